/-
 The thin package's token of the text form, made of the package's: the laws of the steps.
-/
import Derived.Test.YtgdnpnipahegaaaGreatDoorTReadP
import Derived.Test.YtgdnpnipahegaaaGreatDoorQ23
import Derived.Test.YtgdnpnipahegaaaGreatDoorQ9
import Derived.Test.YtgdnpnipahegaaaGreatDoorQ30
import Derived.Deep.AppendLies
namespace Go.Proofs.YtgdnpnipahegaaaGreatDoor
open Go.ChangeShapes Go.WideShapes Go.ChangeAt Go.RowKit
section
def BG (t:TT):List Value:=[.int .i64 (t.kind:Int),.int .i64 ((if t.kind = 2 then t.att else 0:Nat):Int),.int .i64 (t.pos:Int),.bool (t.sep && decide (t.kind = 2)),.string ⟨t.raw.toArray⟩,.string ⟨(if t.kind = 2 then (if t.att = 2 then t.str else t.raw) else []).toArray⟩]
section
variable {P:Program} {N:Nat} {D:List Deferred} {a:Act} {l:List (Nat × Value)} {L rest:List Oper} {Q:Exit→Act→World→Prop} {S:World→Prop} {w:World} {d id fuel:Nat} {op:Op} {ty:TypeId} {pos:String} {af:Array Edge} {listed:Array Bool}
theorem SH {t:TypeId} {x:Operand} {cs:List Value} (H:Has N D a l) (hx:ev l x = some (.agg cs.toArray)) (hd:Nat.blt d N = true)
  (h:∀ w',RowAt w' w.heap.size cs→Below w.heap.size w w'→w'.heap.size = w.heap.size+1→∀ a,Has N D a ((d,.pointer (some ⟨w.heap.size,0,none⟩))::l)→wpList P L.toArray Q rest a w'):wpList P L.toArray Q (⟨some d,.box t x,ty,pos,af,none⟩::rest) a w:=
 Cj H hd (w':=w.alloc (.cells cs.toArray t)) (v:=.pointer (some ⟨w.heap.size,0,none⟩)) (by have h1:=H.ev hx; simp [execOp,h1,Instr.box,newVar,newRow,Value.cells,Result.andThen]) (h _ (BW (heap_alloc_new w _)) ((Below.refl _ w).alloc (Nat.le_refl _) _) (BV w _))
variable {dd:Option Tmp} {gd:Option (Nat × Bool)}
theorem Kq {src dst:TypeId} {q q':IntKind} {x:Operand} {n:Int} (hs:P.underlying src = some (.int q)) (hds:P.underlying dst = some (.int q')) (H:Has N D a l) (hx:ev l x = some (.int q n)) (hn:q'.wrap n = n):∀ w,S w→(execOp a.eval ⟨dd,.convert src dst x,ty,pos,af,gd⟩).run P w = .ok (.value (.int q' n)) w:=fun w _=>by
 have h1:=H.ev hx
 have h2:(convert src dst (.int q n)).run P w = .ok (.int q' n) w:=by simp [convert,run_underlying hs,run_underlying hds,hn,Conv.intToInt,Sem.run_bind]
 simp only [execOp,h1];simp [h2,Result.andThen]
end
theorem G1:H8 Tryz.prog 34 #[.int .i64 0,.int .i64 0,.int .i64 0,.bool false,.string ⟨#[]⟩,.string ⟨#[]⟩]:=fun w=>by
 simp [go_sem,Instr.alloc,newVar,newRow]
theorem JI (k p:Int) (s:ByteArray):Tryz.prog.built 34 [(0,.int .i64 k),(2,.int .i64 p),(4,.string s)] = some #[.int .i64 k,.int .i64 0,.int .i64 p,.bool false,.string s,.string ⟨#[]⟩]:=by kernel_rfl
theorem EA (cs:List Value) (h:cs.length = 6):(Tryz.prog.info? 34).map (·.size) = some cs.length:=by rw [h]; kernel_rfl
theorem Ez (a b c d e f:Value):(Tryz.prog.info? 34).map (·.size) = some [a,b,c,d,e,f].toArray.size:=by kernel_rfl
theorem T5:(Tryz.prog.info? 3).map (·.size) = some 1:=by kernel_rfl
theorem St:(Tryz.prog.info? 4).map (·.size) = some 1:=by kernel_rfl
theorem LK:(Tryz.prog.info? 9).map (·.size) = some 1:=by kernel_rfl
theorem Uc:Bw Tryz.prog 34 1 1:=fun p w=>by simp [go_sem,Instr.fieldAt]
theorem Ub:Bw Tryz.prog 34 3 3:=fun p w=>by simp [go_sem,Instr.fieldAt]
theorem Om:Bw Tryz.prog 34 5 5:=fun p w=>by simp [go_sem,Instr.fieldAt]
theorem G4:Av Tryz.prog 20:=⟨_,Tryz.func20,by kernel_rfl,by kernel_rfl⟩
theorem N7:Av Tryz.prog 29:=⟨_,Tryz.func29,by kernel_rfl,by kernel_rfl⟩
theorem JX:Av Tryz.prog 30:=⟨_,Tryz.func30,by kernel_rfl,by kernel_rfl⟩
theorem Tj:Av Tryz.prog 31:=⟨_,Tryz.func31,by kernel_rfl,by kernel_rfl⟩
theorem pf_tsep:Av Tryz.prog 32:=⟨_,Tryz.func32,by kernel_rfl,by kernel_rfl⟩
theorem RU:Av Tryz.prog 33:=⟨_,Tryz.func33,by kernel_rfl,by kernel_rfl⟩
theorem Ti:Av Tryz.prog 34:=⟨_,Tryz.func34,by kernel_rfl,by kernel_rfl⟩
end
section
set_option maxRecDepth 100000 in
set_option maxHeartbeats 100000000 in
theorem GN {g:Nat} {vr:Value} {t:TT} {w:World} (hv:View w g vr t.raw) (hk9:t.kind≤9) (hatt:t.kind = 2→t.att = 1∨t.att = 2∨t.att = 3) :
  Calls Tryz.prog 21 #[EO vr t] w fun e w'=>e = .returned (.agg (BG t).toArray)∧Below w.heap.size w w':=by
 obtain ⟨ao,n,c,rfl⟩:=View.slice3 hv;have HV:=hid hv;have hB0:=Below.refl w.heap.size w;refine enter1 (M:=40) Tryz.func21 rfl rfl rfl fun a H=>zr fun j1=>?_;obtain ⟨q2,hq2⟩:∃ q,q = w.heap.size:=⟨_,rfl⟩;refine SH (cs:=AA (.slice ao n c) t) H rfl rfl fun w2 hr2 hb2 hs2 a H=>?_;rw [←hq2] at H hr2;have hz3:=hb2.size;have hB4:=Below.trans hB0 (Below.mono hb2 (by omega));obtain ⟨q5,hq5⟩:∃ q,q = w2.heap.size:=⟨_,rfl⟩;refine Az G1 H rfl fun w5 hr5 hb5 hs5 a H=>?_;rw [←hq5] at H hr5;have hz6:=hb5.size;have hr7:=RowAt.bl hr2 hb5;have hB8:=Below.trans hB4 (Below.mono hb5 (by omega));refine zN (j1 ?_);refine BM fun K9 hK9=>?_
 have hJ1:∀ (a:Act) (q3:Nat) (wk10:World),Has 40 [] a [(1,.pointer (some ⟨q2,0,none⟩)),(2,.pointer (some ⟨q5,0,none⟩)),(3,.pointer (some ⟨q3,0,none⟩))]→Below w.heap.size w wk10→RowAt wk10 q2 (AA (.slice ao n c) t)→RowAt wk10 q5 [.int .i64 0,.int .i64 0,.int .i64 0,.bool false,.string ⟨#[]⟩,.string ⟨#[]⟩]→RowAt wk10 q3 [(.int .i64 (t.kind:Int)),(.int .i64 0),(.int .i64 (t.pos:Int)),(.bool false),(.string ⟨t.raw.toArray⟩),(.string ⟨#[]⟩)]→q5 < q3∧q3 < wk10.heap.size→K9 a wk10:=by
  intro a q3 wk10 H hBwk10 hrawk10 hrbwk10 hrcwk10 hqqwk10;refine hK9 _ _ ?_;have hbzwk10:=hBwk10.size;refine zs fun j11=>zr fun j12=>AV Tryz.underlying50 rfl (AP _ rfl) H rfl hrawk10 rfl fun a H=>zC G4 H rfl (Calls.mono (Er (HV.out.below hBwk10)) ?_);rintro e w13 ⟨rfl,hb13⟩;refine zR fun H=>?_;have hz14:=hb13.size;have hr15:=RowAt.bl hrawk10 hb13;have hr16:=RowAt.bl hrbwk10 hb13;have hr17:=RowAt.bl hrcwk10 hb13;have hB18:=Below.trans hBwk10 (Below.mono hb13 (by omega))
  by_cases q19:(((t.kind:Nat):Int)) = ((2:Int))
  ·refine zet H rfl rfl fun H=>zN (j12 ?_)
   have hk2:t.kind = 2:=by omega
   have hat:=hatt hk2;refine zi H rfl (BM fun K20 hK20=>?_)
   have hJ3:∀ (a:Act) (wk21:World),Has 40 [] a [(1,.pointer (some ⟨q2,0,none⟩)),(2,.pointer (some ⟨q5,0,none⟩)),(3,.pointer (some ⟨q3,0,none⟩))]→Below w.heap.size w wk21→RowAt wk21 q2 (AA (.slice ao n c) t)→RowAt wk21 q5 [.int .i64 0,.int .i64 0,.int .i64 0,.bool false,.string ⟨#[]⟩,.string ⟨#[]⟩]→RowAt wk21 q3 [(.int .i64 (t.kind:Int)),(.int .i64 ((t.att:Nat):Int)),(.int .i64 (t.pos:Int)),(.bool t.sep),(.string ⟨t.raw.toArray⟩),(.string ⟨#[]⟩)]→q5 < q3∧q3 < wk21.heap.size→K20 a wk21:=by
    intro a wk21 H hBwk21 hrawk21 hrbwk21 hrcwk21 hqqwk21;refine hK20 _ _ ?_;have hbzwk21:=hBwk21.size;refine zr fun j22=>AV Tryz.underlying50 rfl (AP _ rfl) H rfl hrawk21 rfl fun a H=>zC Tj H rfl (Calls.mono (H9 (HV.out.below hBwk21) (by omega) (hatt (by omega))) ?_);rintro e w23 ⟨rfl,hb23⟩;refine zR fun H=>?_;have hz24:=hb23.size;have hr25:=RowAt.bl hrawk21 hb23;have hr26:=RowAt.bl hrbwk21 hb23;have hr27:=RowAt.bl hrcwk21 hb23;have hB28:=Below.trans hBwk21 (Below.mono hb23 (by omega));refine zN (j22 ?_);refine zK H [1,2,3,23] rfl fun H=>wp_block (zr fun j29=>?_)
    by_cases q30:(((t.att:Nat):Int)) = ((1:Int))
    ·refine zet H rfl rfl fun H=>za H rfl fun H=>zN (j29 ?_);refine zi H rfl ?_
     have ha:t.att = 1:=by omega
     refine Ac (AV Tryz.underlying50 rfl (AP _ rfl) H rfl hr25 rfl fun a H=>zC RU H rfl (Calls.mono (NN (HV.out.below hB28) (by omega) (by omega)) ?_));rintro e w31 ⟨rfl,hb31⟩;refine zR fun H=>?_;have hz32:=hb31.size;have hr34:=RowAt.bl hr26 hb31;have hr35:=RowAt.bl hr27 hb31;have hB36:=Below.trans hB28 (Below.mono hb31 (by omega));refine zg Om H rfl fun H=>Aj (v:=(.string ⟨t.raw.toArray⟩)) LK H rfl rfl rfl (hr35 5 _ rfl).1 (hr35 5 _ rfl).2 rfl ?_;have hr37:RowAt (w31.setCell ⟨q3,5,none⟩ (.string ⟨t.raw.toArray⟩)) q3 [(.int .i64 (t.kind:Int)),(.int .i64 ((t.att:Nat):Int)),(.int .i64 (t.pos:Int)),(.bool t.sep),(.string ⟨t.raw.toArray⟩),(.string ⟨t.raw.toArray⟩)]:=hr35.set 5 (by simp) (.string ⟨t.raw.toArray⟩);have hg37:=AF w31 q3 5 (.string ⟨t.raw.toArray⟩);generalize w31.setCell ⟨q3,5,none⟩ (.string ⟨t.raw.toArray⟩) = w37 at hr37 hg37 ⊢;have hz38:=hg37.size;have hr40:=RowAt.gr hr34 hg37;have hB41:=Below.trans hB36 (Ae (N:=w.heap.size) hg37 (by omega) (by omega));refine wpList_nil (bn (tn (j11 ?_)));refine zr fun j42=>AV Tryz.underlying34 rfl (EA _ rfl) H rfl hr37 rfl fun a H=>AJ (vs:=[(.int .i64 (t.kind:Int)),(.int .i64 ((t.att:Nat):Int)),(.int .i64 (t.pos:Int)),(.bool t.sep),(.string ⟨t.raw.toArray⟩),(.string ⟨t.raw.toArray⟩)]) H rfl rfl hr40 rfl (Ez _ _ _ _ _ _) (by simp [Value.oneCell']) fun w43 hr43 hg43=>?_;have hz44:=hg43.size;have hB47:=Below.trans hB41 (Ae (N:=w.heap.size) hg43 (by omega) (by omega));refine zN (j42 ?_);refine zK H [1,2,3] rfl fun H=>wp_ret (?_);have h2:=H.get 2 _ rfl;refine bodyPost_ret (Dy (by rfl) _ _ q5 _ _ (by simp [h2]) hr43 Tryz.underlying34 (by rfl) (EA _ rfl)) H.defers ?_;exact ⟨congrArg Ending.returned (congrArg (fun l=>Value.agg (List.toArray l)) (show [(.int .i64 (t.kind:Int)),(.int .i64 ((t.att:Nat):Int)),(.int .i64 (t.pos:Int)),(.bool t.sep),(.string ⟨t.raw.toArray⟩),(.string ⟨t.raw.toArray⟩)] = BG t from by unfold BG; simp [hk2,ha])),hB47⟩
    ·refine zef H rfl rfl fun H=>za H rfl fun H=>zN (j29 ?_);refine zj H rfl (zr fun j48=>?_)
     by_cases q49:(((t.att:Nat):Int)) = ((2:Int))
     ·refine zet H rfl rfl fun H=>za H rfl fun H=>zN (j48 ?_);refine zi H rfl ?_
      have ha:t.att = 2:=by omega
      refine Ac (AV Tryz.underlying50 rfl (AP _ rfl) H rfl hr25 rfl fun a H=>zC Ti H rfl (Calls.mono (OP (HV.out.below hB28) (by omega) (by omega)) ?_));rintro e w50 ⟨rfl,hb50⟩;refine zR fun H=>?_;have hz51:=hb50.size;have hr53:=RowAt.bl hr26 hb50;have hr54:=RowAt.bl hr27 hb50;have hB55:=Below.trans hB28 (Below.mono hb50 (by omega));refine zg Om H rfl fun H=>Aj (v:=(.string ⟨t.str.toArray⟩)) LK H rfl rfl rfl (hr54 5 _ rfl).1 (hr54 5 _ rfl).2 rfl ?_;have hr56:RowAt (w50.setCell ⟨q3,5,none⟩ (.string ⟨t.str.toArray⟩)) q3 [(.int .i64 (t.kind:Int)),(.int .i64 ((t.att:Nat):Int)),(.int .i64 (t.pos:Int)),(.bool t.sep),(.string ⟨t.raw.toArray⟩),(.string ⟨t.str.toArray⟩)]:=hr54.set 5 (by simp) (.string ⟨t.str.toArray⟩);have hg56:=AF w50 q3 5 (.string ⟨t.str.toArray⟩);generalize w50.setCell ⟨q3,5,none⟩ (.string ⟨t.str.toArray⟩) = w56 at hr56 hg56 ⊢;have hz57:=hg56.size;have hr59:=RowAt.gr hr53 hg56;have hB60:=Below.trans hB55 (Ae (N:=w.heap.size) hg56 (by omega) (by omega));refine wpList_nil (bn (tn (j11 ?_)));refine zK H [1,2,3] rfl fun H=>zr fun j61=>AV Tryz.underlying34 rfl (EA _ rfl) H rfl hr56 rfl fun a H=>AJ (vs:=[(.int .i64 (t.kind:Int)),(.int .i64 ((t.att:Nat):Int)),(.int .i64 (t.pos:Int)),(.bool t.sep),(.string ⟨t.raw.toArray⟩),(.string ⟨t.str.toArray⟩)]) H rfl rfl hr59 rfl (Ez _ _ _ _ _ _) (by simp [Value.oneCell']) fun w62 hr62 hg62=>?_;have hz63:=hg62.size;have hB66:=Below.trans hB60 (Ae (N:=w.heap.size) hg62 (by omega) (by omega));refine zN (j61 ?_);refine wp_ret (?_);have h2:=H.get 2 _ rfl;refine bodyPost_ret (Dy (by rfl) _ _ q5 _ _ (by simp [h2]) hr62 Tryz.underlying34 (by rfl) (EA _ rfl)) H.defers ?_;exact ⟨congrArg Ending.returned (congrArg (fun l=>Value.agg (List.toArray l)) (show [(.int .i64 (t.kind:Int)),(.int .i64 ((t.att:Nat):Int)),(.int .i64 (t.pos:Int)),(.bool t.sep),(.string ⟨t.raw.toArray⟩),(.string ⟨t.str.toArray⟩)] = BG t from by unfold BG; simp [hk2,ha])),hB66⟩
     ·refine zef H rfl rfl fun H=>za H rfl fun H=>zN (j48 ?_);refine zj H rfl (zr fun j67=>zet H rfl rfl fun H=>za H rfl fun H=>zN (j67 ?_));refine zK H [1,2,3,34] rfl fun H=>zi H rfl ?_
      have ha:t.att = 3:=by omega
      refine Ac (AV Tryz.underlying50 rfl (AP _ rfl) H rfl hr25 rfl fun a H=>zC JX H rfl (Calls.mono (F7 (HV.out.below hB28)) ?_));rintro e w68 ⟨rfl,hb68⟩;refine zR fun H=>?_;have hz69:=hb68.size;have hr71:=RowAt.bl hr26 hb68;have hr72:=RowAt.bl hr27 hb68;have hB73:=Below.trans hB28 (Below.mono hb68 (by omega));refine zg Om H rfl fun H=>Aj (v:=(.string ⟨t.raw.toArray⟩)) LK H rfl rfl rfl (hr72 5 _ rfl).1 (hr72 5 _ rfl).2 rfl ?_;have hr74:RowAt (w68.setCell ⟨q3,5,none⟩ (.string ⟨t.raw.toArray⟩)) q3 [(.int .i64 (t.kind:Int)),(.int .i64 ((t.att:Nat):Int)),(.int .i64 (t.pos:Int)),(.bool t.sep),(.string ⟨t.raw.toArray⟩),(.string ⟨t.raw.toArray⟩)]:=hr72.set 5 (by simp) (.string ⟨t.raw.toArray⟩);have hg74:=AF w68 q3 5 (.string ⟨t.raw.toArray⟩);generalize w68.setCell ⟨q3,5,none⟩ (.string ⟨t.raw.toArray⟩) = w74 at hr74 hg74 ⊢;have hz75:=hg74.size;have hr77:=RowAt.gr hr71 hg74;have hB78:=Below.trans hB73 (Ae (N:=w.heap.size) hg74 (by omega) (by omega));refine wpList_nil (bn (tn (j11 ?_)));refine zr fun j79=>AV Tryz.underlying34 rfl (EA _ rfl) H rfl hr74 rfl fun a H=>AJ (vs:=[(.int .i64 (t.kind:Int)),(.int .i64 ((t.att:Nat):Int)),(.int .i64 (t.pos:Int)),(.bool t.sep),(.string ⟨t.raw.toArray⟩),(.string ⟨t.raw.toArray⟩)]) H rfl rfl hr77 rfl (Ez _ _ _ _ _ _) (by simp [Value.oneCell']) fun w80 hr80 hg80=>?_;have hz81:=hg80.size;have hB84:=Below.trans hB78 (Ae (N:=w.heap.size) hg80 (by omega) (by omega));refine zN (j79 ?_);refine wp_ret (?_);have h2:=H.get 2 _ rfl;refine bodyPost_ret (Dy (by rfl) _ _ q5 _ _ (by simp [h2]) hr80 Tryz.underlying34 (by rfl) (EA _ rfl)) H.defers ?_;exact ⟨congrArg Ending.returned (congrArg (fun l=>Value.agg (List.toArray l)) (show [(.int .i64 (t.kind:Int)),(.int .i64 ((t.att:Nat):Int)),(.int .i64 (t.pos:Int)),(.bool t.sep),(.string ⟨t.raw.toArray⟩),(.string ⟨t.raw.toArray⟩)] = BG t from by unfold BG; simp [hk2,ha])),hB84⟩
   refine AE (fun w'=>RowAt w' q2 (AA (.slice ao n c) t)) 9 AO rfl ?_;have hbd85:Below w13.heap.size w13 w13.drew:=(Below.refl _ _).drew;generalize w13.drew = wd85 at hbd85 ⊢;have hz86:=hbd85.size;have hr87:=RowAt.bl hr15 hbd85;have hr88:=RowAt.bl hr16 hbd85;have hr89:=RowAt.bl hr17 hbd85;have hB90:=Below.trans hB18 (Below.mono hbd85 (by omega));refine zd 0 H rfl (Dz Tryz.underlying50 rfl (AP _ rfl) H rfl (fun _ h j v hj=>by rw [Nat.zero_add]; exact (h j v hj).1)) hr87 fun H=>zd 3 H rfl (Dz Tryz.underlying50 rfl (AP _ rfl) H rfl (fun _ h j v hj=>by rw [Nat.zero_add]; exact (h j v hj).1)) hr87 fun H=>zD 1 rfl (zC Tj H rfl (Calls.mono (H9 (HV.out.below hB90) (by omega) (hatt (by omega))) ?_));rintro e w91 ⟨rfl,hb91⟩;refine zR fun H=>?_;have hz92:=hb91.size;have hr93:=RowAt.bl hr87 hb91;have hr94:=RowAt.bl hr88 hb91;have hr95:=RowAt.bl hr89 hb91;have hB96:=Below.trans hB90 (Below.mono hb91 (by omega));refine wpList_nil ⟨hr93,?_⟩;refine zd 2 H rfl (Kq (q:=.u8) (q':=.i64) Tryz.underlying64 Tryz.underlying3 H rfl (EU _ (by omega) (by omega))) hr93 fun H=>zd 5 H rfl (Ap Uc H rfl) hr93 fun H=>zD 4 rfl (zC pf_tsep H rfl (Calls.mono (P9 (HV.out.below hB96) (by omega) (hatt (by omega))) ?_));rintro e w97 ⟨rfl,hb97⟩;refine zR fun H=>?_;have hz98:=hb97.size;have hr99:=RowAt.bl hr93 hb97;have hr100:=RowAt.bl hr94 hb97;have hr101:=RowAt.bl hr95 hb97;have hB102:=Below.trans hB96 (Below.mono hb97 (by omega));refine wpList_nil ⟨hr99,?_⟩;refine zD 6 rfl (Aj (v:=(.int .i64 ((t.att:Nat):Int))) T5 H rfl rfl rfl (hr101 1 _ rfl).1 (hr101 1 _ rfl).2 rfl ?_);have hr103:RowAt (w97.setCell ⟨q3,1,none⟩ (.int .i64 ((t.att:Nat):Int))) q3 [(.int .i64 (t.kind:Int)),(.int .i64 ((t.att:Nat):Int)),(.int .i64 (t.pos:Int)),(.bool false),(.string ⟨t.raw.toArray⟩),(.string ⟨#[]⟩)]:=hr101.set 1 (by simp) (.int .i64 ((t.att:Nat):Int));have hg103:=AF w97 q3 1 (.int .i64 ((t.att:Nat):Int));generalize w97.setCell ⟨q3,1,none⟩ (.int .i64 ((t.att:Nat):Int)) = w103 at hr103 hg103 ⊢;have hz104:=hg103.size;have hr105:=RowAt.gr hr99 hg103;have hr106:=RowAt.gr hr100 hg103;have hB107:=Below.trans hB102 (Ae (N:=w.heap.size) hg103 (by omega) (by omega));refine wpList_nil ⟨hr105,?_⟩;refine zd 7 H rfl (Ap Ub H rfl) hr105 fun H=>zD 8 rfl (Aj (v:=(.bool t.sep)) St H rfl rfl rfl (hr103 3 _ rfl).1 (hr103 3 _ rfl).2 rfl ?_);have hr108:RowAt (w103.setCell ⟨q3,3,none⟩ (.bool t.sep)) q3 [(.int .i64 (t.kind:Int)),(.int .i64 ((t.att:Nat):Int)),(.int .i64 (t.pos:Int)),(.bool t.sep),(.string ⟨t.raw.toArray⟩),(.string ⟨#[]⟩)]:=hr103.set 3 (by simp) (.bool t.sep);have hg108:=AF w103 q3 3 (.bool t.sep);generalize w103.setCell ⟨q3,3,none⟩ (.bool t.sep) = w108 at hr108 hg108 ⊢;have hz109:=hg108.size;have hr110:=RowAt.gr hr105 hg108;have hr111:=RowAt.gr hr106 hg108;have hB112:=Below.trans hB107 (Ae (N:=w.heap.size) hg108 (by omega) (by omega));refine wpList_nil ⟨hr110,?_⟩;exact Ay (by kernel_rfl) (tn (hJ3 _ w108 H.c hB112 hr110 hr111 hr108 ⟨by omega,by omega⟩))
  ·refine zef H rfl rfl fun H=>zN (j12 ?_);refine zK H [1,2,3,14] rfl fun H=>?_
   have hk2:t.kind≠2:=by omega
   refine zj H rfl (wp_skip (tn (j11 ?_)));refine zr fun j113=>AV Tryz.underlying34 rfl (EA _ rfl) H rfl hr17 rfl fun a H=>AJ (vs:=[(.int .i64 (t.kind:Int)),(.int .i64 0),(.int .i64 (t.pos:Int)),(.bool false),(.string ⟨t.raw.toArray⟩),(.string ⟨#[]⟩)]) H rfl rfl hr16 rfl (Ez _ _ _ _ _ _) (by simp [Value.oneCell']) fun w114 hr114 hg114=>?_;have hz115:=hg114.size;have hB118:=Below.trans hB18 (Ae (N:=w.heap.size) hg114 (by omega) (by omega));refine zN (j113 ?_);refine wp_ret (?_);have h2:=H.get 2 _ rfl;refine bodyPost_ret (Dy (by rfl) _ _ q5 _ _ (by simp [h2]) hr114 Tryz.underlying34 (by rfl) (EA _ rfl)) H.defers ?_;exact ⟨congrArg Ending.returned (congrArg (fun l=>Value.agg (List.toArray l)) (show [(.int .i64 (t.kind:Int)),(.int .i64 0),(.int .i64 (t.pos:Int)),(.bool false),(.string ⟨t.raw.toArray⟩),(.string ⟨#[]⟩)] = BG t from by unfold BG; simp [hk2])),hB118⟩
 refine AE (fun w'=>RowAt w' q2 (AA (.slice ao n c) t)) 10 AO rfl ?_;have hbd119:Below w5.heap.size w5 w5.drew:=(Below.refl _ _).drew;generalize w5.drew = wd119 at hbd119 ⊢;have hz120:=hbd119.size;have hr121:=RowAt.bl hr7 hbd119;have hr122:=RowAt.bl hr5 hbd119;have hB123:=Below.trans hB8 (Below.mono hbd119 (by omega));refine zd 0 H rfl (Dz Tryz.underlying50 rfl (AP _ rfl) H rfl (fun _ h j v hj=>by rw [Nat.zero_add]; exact (h j v hj).1)) hr121 fun H=>zd 3 H rfl (Dz Tryz.underlying50 rfl (AP _ rfl) H rfl (fun _ h j v hj=>by rw [Nat.zero_add]; exact (h j v hj).1)) hr121 fun H=>zd 5 H rfl (Dz Tryz.underlying50 rfl (AP _ rfl) H rfl (fun _ h j v hj=>by rw [Nat.zero_add]; exact (h j v hj).1)) hr121 fun H=>Gm 1 8 (by kernel_rfl) rfl rfl rfl rfl ?_ ?_
 ·refine zC G4 H rfl (Calls.mono (Er (HV.out.below hB123)) ?_);rintro e w124 ⟨rfl,hb124⟩;refine zR fun H=>?_;have hz125:=hb124.size;have hr126:=RowAt.bl hr121 hb124;have hr127:=RowAt.bl hr122 hb124;have hB128:=Below.trans hB123 (Below.mono hb124 (by omega));refine wpList_nil ⟨hr126,?_⟩;refine zd 2 H rfl (Kq (q:=.u8) (q':=.i64) Tryz.underlying48 Tryz.underlying3 H rfl (EU _ (by omega) (by omega))) hr126 fun H=>Gm 4 8 (by kernel_rfl) rfl rfl rfl rfl ?_ ?_
  ·refine zC N7 H rfl (Calls.mono (Jc (HV.out.below hB128)) ?_);rintro e w129 ⟨rfl,hb129⟩;refine zR fun H=>?_;have hz130:=hb129.size;have hr131:=RowAt.bl hr126 hb129;have hr132:=RowAt.bl hr127 hb129;have hB133:=Below.trans hB128 (Below.mono hb129 (by omega));refine wpList_nil ⟨hr131,?_⟩;refine Gm 6 8 (by kernel_rfl) rfl rfl rfl rfl ?_ ?_
   ·refine zC JX H rfl (Calls.mono (F7 (HV.out.below hB133)) ?_);rintro e w134 ⟨rfl,hb134⟩;refine zR fun H=>?_;have hz135:=hb134.size;have hr136:=RowAt.bl hr131 hb134;have hr137:=RowAt.bl hr132 hb134;have hB138:=Below.trans hB133 (Below.mono hb134 (by omega));refine wpList_nil ⟨hr136,?_⟩;refine zd 7 H rfl (Cy (JI _ _ _) H rfl) hr136 fun H=>zD 8 rfl ?_;obtain ⟨q139,hq139⟩:∃ q,q = w134.heap.size:=⟨_,rfl⟩;refine Az G1 H rfl fun w139 hr139 hb139 hs139 a H=>?_;rw [←hq139] at H hr139;have hz140:=hb139.size;have hr141:=RowAt.bl hr136 hb139;have hr142:=RowAt.bl hr137 hb139;have hB143:=Below.trans hB138 (Below.mono hb139 (by omega));refine wpList_nil ⟨hr141,?_⟩;refine zD 9 rfl (AJ (vs:=[(.int .i64 (t.kind:Int)),(.int .i64 0),(.int .i64 (t.pos:Int)),(.bool false),(.string ⟨t.raw.toArray⟩),(.string ⟨#[]⟩)]) H rfl rfl hr139 rfl (Ez _ _ _ _ _ _) (by simp [Value.oneCell']) fun w144 hr144 hg144=>?_);have hz145:=hg144.size;have hr146:=RowAt.gr hr141 hg144;have hr147:=RowAt.gr hr142 hg144;have hB148:=Below.trans hB143 (Ae (N:=w.heap.size) hg144 (by omega) (by omega));refine wpList_nil ⟨hr146,?_⟩;exact Ay (by kernel_rfl) (tn (hJ1 _ q139 w144 H.c hB148 hr146 hr147 hr144 ⟨by omega,by omega⟩))
   ·obtain ⟨q149,hq149⟩:∃ q,q = w129.heap.size:=⟨_,rfl⟩;refine Az G1 H rfl fun w149 hr149 hb149 hs149 a H=>?_;rw [←hq149] at H hr149;have hz150:=hb149.size;have hr151:=RowAt.bl hr131 hb149;have hr152:=RowAt.bl hr132 hb149;have hB153:=Below.trans hB133 (Below.mono hb149 (by omega));refine wpList_nil ⟨hr151,?_⟩;refine zD 6 rfl (zC JX H rfl (Calls.mono (F7 (HV.out.below hB153)) ?_));rintro e w154 ⟨rfl,hb154⟩;refine zR fun H=>?_;have hz155:=hb154.size;have hr156:=RowAt.bl hr151 hb154;have hr157:=RowAt.bl hr152 hb154;have hr158:=RowAt.bl hr149 hb154;have hB159:=Below.trans hB153 (Below.mono hb154 (by omega));refine wpList_nil ⟨hr156,?_⟩;refine zd 7 H rfl (Cy (JI _ _ _) H rfl) hr156 fun H=>zD 9 rfl (AJ (vs:=[(.int .i64 (t.kind:Int)),(.int .i64 0),(.int .i64 (t.pos:Int)),(.bool false),(.string ⟨t.raw.toArray⟩),(.string ⟨#[]⟩)]) H rfl rfl hr158 rfl (Ez _ _ _ _ _ _) (by simp [Value.oneCell']) fun w160 hr160 hg160=>?_);have hz161:=hg160.size;have hr162:=RowAt.gr hr156 hg160;have hr163:=RowAt.gr hr157 hg160;have hB164:=Below.trans hB159 (Ae (N:=w.heap.size) hg160 (by omega) (by omega));refine wpList_nil ⟨hr162,?_⟩;exact Ay (by kernel_rfl) (tn (hJ1 _ q149 w160 H.c hB164 hr162 hr163 hr160 ⟨by omega,by omega⟩))
  ·obtain ⟨q165,hq165⟩:∃ q,q = w124.heap.size:=⟨_,rfl⟩;refine Az G1 H rfl fun w165 hr165 hb165 hs165 a H=>?_;rw [←hq165] at H hr165;have hz166:=hb165.size;have hr167:=RowAt.bl hr126 hb165;have hr168:=RowAt.bl hr127 hb165;have hB169:=Below.trans hB128 (Below.mono hb165 (by omega));refine wpList_nil ⟨hr167,?_⟩;refine zD 4 rfl (zC N7 H rfl (Calls.mono (Jc (HV.out.below hB169)) ?_));rintro e w170 ⟨rfl,hb170⟩;refine zR fun H=>?_;have hz171:=hb170.size;have hr172:=RowAt.bl hr167 hb170;have hr173:=RowAt.bl hr168 hb170;have hr174:=RowAt.bl hr165 hb170;have hB175:=Below.trans hB169 (Below.mono hb170 (by omega));refine wpList_nil ⟨hr172,?_⟩;refine zD 6 rfl (zC JX H rfl (Calls.mono (F7 (HV.out.below hB175)) ?_));rintro e w176 ⟨rfl,hb176⟩;refine zR fun H=>?_;have hz177:=hb176.size;have hr178:=RowAt.bl hr172 hb176;have hr179:=RowAt.bl hr173 hb176;have hr180:=RowAt.bl hr174 hb176;have hB181:=Below.trans hB175 (Below.mono hb176 (by omega));refine wpList_nil ⟨hr178,?_⟩;refine zd 7 H rfl (Cy (JI _ _ _) H rfl) hr178 fun H=>zD 9 rfl (AJ (vs:=[(.int .i64 (t.kind:Int)),(.int .i64 0),(.int .i64 (t.pos:Int)),(.bool false),(.string ⟨t.raw.toArray⟩),(.string ⟨#[]⟩)]) H rfl rfl hr180 rfl (Ez _ _ _ _ _ _) (by simp [Value.oneCell']) fun w182 hr182 hg182=>?_);have hz183:=hg182.size;have hr184:=RowAt.gr hr178 hg182;have hr185:=RowAt.gr hr179 hg182;have hB186:=Below.trans hB181 (Ae (N:=w.heap.size) hg182 (by omega) (by omega));refine wpList_nil ⟨hr184,?_⟩;exact Ay (by kernel_rfl) (tn (hJ1 _ q165 w182 H.c hB186 hr184 hr185 hr182 ⟨by omega,by omega⟩))
 ·obtain ⟨q187,hq187⟩:∃ q,q = wd119.heap.size:=⟨_,rfl⟩;refine Az G1 H rfl fun w187 hr187 hb187 hs187 a H=>?_;rw [←hq187] at H hr187;have hz188:=hb187.size;have hr189:=RowAt.bl hr121 hb187;have hr190:=RowAt.bl hr122 hb187;have hB191:=Below.trans hB123 (Below.mono hb187 (by omega));refine wpList_nil ⟨hr189,?_⟩;refine zD 1 rfl (zC G4 H rfl (Calls.mono (Er (HV.out.below hB191)) ?_));rintro e w192 ⟨rfl,hb192⟩;refine zR fun H=>?_;have hz193:=hb192.size;have hr194:=RowAt.bl hr189 hb192;have hr195:=RowAt.bl hr190 hb192;have hr196:=RowAt.bl hr187 hb192;have hB197:=Below.trans hB191 (Below.mono hb192 (by omega));refine wpList_nil ⟨hr194,?_⟩;refine zd 2 H rfl (Kq (q:=.u8) (q':=.i64) Tryz.underlying48 Tryz.underlying3 H rfl (EU _ (by omega) (by omega))) hr194 fun H=>zD 4 rfl (zC N7 H rfl (Calls.mono (Jc (HV.out.below hB197)) ?_));rintro e w198 ⟨rfl,hb198⟩;refine zR fun H=>?_;have hz199:=hb198.size;have hr200:=RowAt.bl hr194 hb198;have hr201:=RowAt.bl hr195 hb198;have hr202:=RowAt.bl hr196 hb198;have hB203:=Below.trans hB197 (Below.mono hb198 (by omega));refine wpList_nil ⟨hr200,?_⟩;refine zD 6 rfl (zC JX H rfl (Calls.mono (F7 (HV.out.below hB203)) ?_));rintro e w204 ⟨rfl,hb204⟩;refine zR fun H=>?_;have hz205:=hb204.size;have hr206:=RowAt.bl hr200 hb204;have hr207:=RowAt.bl hr201 hb204;have hr208:=RowAt.bl hr202 hb204;have hB209:=Below.trans hB203 (Below.mono hb204 (by omega));refine wpList_nil ⟨hr206,?_⟩;refine zd 7 H rfl (Cy (JI _ _ _) H rfl) hr206 fun H=>zD 9 rfl (AJ (vs:=[(.int .i64 (t.kind:Int)),(.int .i64 0),(.int .i64 (t.pos:Int)),(.bool false),(.string ⟨t.raw.toArray⟩),(.string ⟨#[]⟩)]) H rfl rfl hr208 rfl (Ez _ _ _ _ _ _) (by simp [Value.oneCell']) fun w210 hr210 hg210=>?_);have hz211:=hg210.size;have hr212:=RowAt.gr hr206 hg210;have hr213:=RowAt.gr hr207 hg210;have hB214:=Below.trans hB209 (Ae (N:=w.heap.size) hg210 (by omega) (by omega));refine wpList_nil ⟨hr212,?_⟩;exact Ay (by kernel_rfl) (tn (hJ1 _ q187 w210 H.c hB214 hr212 hr213 hr210 ⟨by omega,by omega⟩))
end
section
def OwnX (w:World) (B:Nat) (v:Value) (l:List TT):Prop:=w.ownsRow B 34 6 v l.length (l.flatMap BG)
theorem OwnX.slice {w:World} {B:Nat} {v:Value} {l:List TT} (h:OwnX w B v l):∃ ao c,v = .slice ao l.length c:=by
 rcases h.2 with ⟨rfl,h0⟩ | ⟨g,cap,cur,rfl,_⟩
 ·exact ⟨none,0,by rw [h0]⟩
 ·exact ⟨_,_,rfl⟩
theorem OwnX.nil (w:World) (B:Nat):OwnX w B (.slice none 0 0) []:=World.ownsRow_nil _ _ _ _
theorem OwnX.below {w w':World} {B:Nat} {v:Value} {l:List TT} (h:OwnX w B v l) (hb:Below w.heap.size w w'):OwnX w' B v l:=
 World.ownsRow.kept h (row:=none) ⟨hb.os,hb.tape,hb.output,hb.size,fun k hk _=>hb.block k hk⟩ (by cases v.ownBlock <;> simp)
theorem OwnX.lt {w:World} {B:Nat} {v:Value} {l:List TT} (h:OwnX w B v l):∀ k,v.ownBlock = some k→B≤k∧k < w.heap.size:=fun k hk=>World.ownsRow.lt h k hk
theorem OwnX.grownOther {w w':World} {B q:Nat} {v:Value} {l:List TT} (h:OwnX w B v l) (hg:w.grownBy w' (some q)) (hq:∀ k,v.ownBlock = some k→k≠q):OwnX w' B v l:=
 World.ownsRow.kept h hg (by
  cases hv:v.ownBlock with
  | none=>exact .inl rfl
  | some k=>exact .inr (fun e=>by injection e with e; exact hq k hv e))
theorem OwnX.step {w w':World} {B p:Nat} {v vst vst':Value} {l:List TT} (h:OwnX w B v l) (hs:DStep p vst w vst' w') (hp:v.ownBlock≠some p) (hv:∀ k,v.ownBlock = some k→vst.ownBlock≠some k):OwnX w' B v l:=by
 refine ⟨h.1,?_⟩
 rcases h.2 with hn | ⟨q,cap,cur,rfl,h1,h2,rest⟩
 ·exact .inl hn
 ·exact .inr ⟨q,cap,cur,rfl,h1,by rw [hs.block q (World.ownsRow.lt h q rfl).2 (fun e=>hp (by rw [e]; try rfl)) (hv q rfl)]; exact h2,rest⟩
theorem F9 {p:Nat} {v v1 v2:Value} {w w':World} (h:DStep p v1 w v2 w') (hv:∀ k,v.ownBlock = some k→v1.ownBlock≠some k) (hl:∀ k,v.ownBlock = some k→k < w.heap.size):∀ k,v.ownBlock = some k→v2.ownBlock≠some k:=fun k hk e=>by
 rcases h.lies k e with h1 | h1
 ·exact hv k hk h1
 ·have:=hl k hk; omega
structure Appx (w:World) (B:Nat) (v v':Value) (l:List TT) (w':World):Prop where
 own:OwnX w' B v' l
 grown:w.grownBy w' v.ownBlock
 lies:v'.ownBlock = v.ownBlock∨v'.ownBlock = some w.heap.size
theorem SS:(Tryz.prog.info? 34).map (fun i=>(i.zero,i.size,i.bytes)) = some (some (.agg #[.int .i64 0,.int .i64 0,.int .i64 0,.bool false,.string ⟨#[]⟩,.string ⟨#[]⟩]),6,64):=by kernel_rfl
def BView (w:World) (B:Nat) (v:Value) (ps:List Bool):Prop:=
 ∃ ao cap,v = .slice ao ps.length cap∧∀ j (hj:j < ps.length),∃ b o,ao = some ⟨b,o,none⟩∧b < B∧w.cell? ⟨b,o+j,none⟩ = some (.bool ps[j])
theorem BView.below {w w':World} {B:Nat} {v:Value} {ps:List Bool} (h:BView w B v ps) (hb:Below B w w'):BView w' B v ps:=by
 obtain ⟨ao,cap,rfl,h1⟩:=h;refine ⟨ao,cap,rfl,fun j hj=>?_⟩;obtain ⟨b,o,e1,e2,e3⟩:=h1 j hj;exact ⟨b,o,e1,e2,(hb.cell (p:=⟨b,o+j,none⟩) e2).trans e3⟩
theorem BView.nil (w:World) (B:Nat):BView w B (.slice none 0 0) []:=⟨none,0,rfl,fun j hj=>absurd hj (Nat.not_lt_zero j)⟩
theorem BView.mono {w:World} {B B':Nat} {v:Value} {ps:List Bool} (h:BView w B v ps) (hb:B≤B'):BView w B' v ps:=by
 obtain ⟨ao,cap,rfl,h1⟩:=h;refine ⟨ao,cap,rfl,fun j hj=>?_⟩;obtain ⟨b,o,e1,e2,e3⟩:=h1 j hj;exact ⟨b,o,e1,by omega,e3⟩
theorem T2:(Tryz.prog.info? 4).map (fun i=>(i.zero,i.size,i.bytes)) = some (some (.bool false),1,1):=by kernel_rfl
theorem Pk:Ds Tryz.prog 4:=fun w=>by simp [isAgg,Sem.run_bind,go_sem]
section
variable {N:Nat} {D:List Deferred} {a:Act} {l:List (Nat × Value)} {L rest:List Oper} {Q:Exit→Act→World→Prop} {w:World} {d:Nat} {ty:TypeId} {pos:String} {af:Array Edge}
theorem P1 {x i:Operand} {v:Value} {B n:Nat} {ps:List Bool} (H:Has N D a l) (hx:ev l x = some v) (hi:ev l i = some (.int .i64 (n:Int))) (hv:BView w B v ps) (h1:n < ps.length) (hd:Nat.blt d N = true)
  (h:∀ a ad,Has N D a ((d,.pointer (some ad))::l)→w.cell? ad = some (.bool (ps.getD n false))→wpList Tryz.prog L.toArray Q rest a w):wpList Tryz.prog L.toArray Q (⟨some d,.indexAddr 32 x i,ty,pos,af,none⟩::rest) a w:=by
 obtain ⟨ao,cap,rfl,h2⟩:=hv;obtain ⟨inf,hi1,hz,hz1,hz2⟩:=info_parts T2;obtain ⟨b,off,rfl,_,h5⟩:=h2 n h1;have e1:=H.ev hx;have e2:=H.ev hi;refine Cj H hd (v:=.pointer (some ⟨b,off+n,none⟩)) (w':=w) (by simp [execOp,e1,e2,Instr.indexAt,asIntOf,run_underlying Tryz.underlying32,h1,sizeOf,typeInfo,hi1,hz1,Addr.add_lit]) ?_;exact fun a H=>h a _ H (by rw [h5,List.getD_eq_getElem?_getD,List.getElem?_eq_getElem h1]; try rfl)
theorem NI {x:Operand} {c0 c1 c2 c3 c4 c5:Value} (H:Has N D a l) (hx:ev l x = some (.agg #[c0,c1,c2,c3,c4,c5])) (hd:Nat.blt d N = true)
  (h:∀ w',RowAt w' w.heap.size [c0,c1,c2,c3,c4,c5]→Below w.heap.size w w'→w'.heap.size = w.heap.size+1→∀ a,Has N D a ((d,.slice (some ⟨w.heap.size,0,none⟩) 1 1)::l)→wpList Tryz.prog L.toArray Q rest a w'):wpList Tryz.prog L.toArray Q (⟨some d,.buildSlice 28 1 #[(0,x)],ty,pos,af,none⟩::rest) a w:=by
 obtain ⟨inf,hi1,hz,hz1,hz2⟩:=info_parts SS;have h1:=H.ev hx;have:=run_buildSlice (P:=Tryz.prog) w 28 34 1 #[(0,.agg #[c0,c1,c2,c3,c4,c5])] #[c0,c1,c2,c3,c4,c5] inf _ Tryz.underlying28 hi1 hz (by rw [hz1]; decide) (by rw [hz1]; decide) (by rw [hz1]; kernel_rfl);refine Cj H hd (v:=.slice (some ⟨w.heap.size,0,none⟩) 1 1) (w':=w.alloc (.cells #[c0,c1,c2,c3,c4,c5] 34)) (by simp [execOp,h1,this,Result.andThen]) ?_;exact h _ (BW (heap_alloc_new w _)) ((Below.refl _ w).alloc (Nat.le_refl _) _) (BV w _)
theorem NK {s x:Operand} {B q c:Nat} {v:Value} {ls:List TT} {t:TT} (H:Has N D a l) (hs:ev l s = some v) (hown:OwnX w B v ls) (hx:ev l x = some (.slice (some ⟨q,0,none⟩) 1 c)) (hc:RowAt w q (BG t)) (hB:B≤w.heap.size) (hlen:ls.length≤100000000) (hd:Nat.blt d N = true)
  (h:∀ v' w',Appx w B v v' (ls++[t]) w'→∀ a,Has N D a ((d,v')::l)→wpList Tryz.prog L.toArray Q rest a w') :
  wpList Tryz.prog L.toArray Q (⟨some d,.call { callee:=.builtin .append,args:=#[s,x],argTypes:=#[28,28] },ty,pos,af,none⟩::rest) a w:=by
 obtain ⟨i,hi,hz,hz1,hz2⟩:=info_parts SS;refine wpList_append_lies w rfl s x 28 rfl B _ i _ 6 64 Tryz.underlying28 hi hz hz1 hz2 rfl (by decide) v ls.length (ls.flatMap BG) (H.ev hs) hown ⟨q,0,none⟩ 1 c (BG t) (H.ev hx) rfl (fun j u hj=>by rw [Addr.add_lit,Nat.zero_add]; exact (hc j u hj).1) (by intro u hu; simp [BG] at hu; rcases hu with rfl | rfl | rfl | rfl | rfl | rfl <;> rfl) (by omega) (by unfold maxLen; omega) (by omega) hB w.heap.size rfl ?_;intro g cap w' hown' hgrow hat hlt;refine h _ w' ⟨?_,hgrow,?_⟩ _ (H.put hd)
 ·unfold OwnX;rw [List.flatMap_append,List.length_append]
  simpa using hown'
 ·rcases hat with h | h
  ·exact .inl h.symm
  ·exact .inr (by simp [Value.ownBlock,h])
end
theorem N8 (bs:List UInt8) (s:DT):(Fo bs s).peeked = true:=by
 unfold Fo
 by_cases h:s.peeked = true
 ·rw [if_pos h]; exact h
 ·rw [if_neg h]
  cases Db bs s <;> rfl
theorem Sd {bs:List UInt8} {a b:DT} (h:Like a b):Cx bs b = Cx bs a:=by
 rcases h with rfl | ⟨h1,h2,h3,h4⟩
 ·rfl
 ·rw [Hq h1,Hq h3,h2,h4]; try rfl
theorem PA {a b:DT} (h:Like a b) (ha:a.peeked = true):b.peeked = true:=by
 rcases h with rfl | ⟨_,_,h3,_⟩
 ·exact ha
 ·exact h3
theorem NZ {bs:List UInt8} {ps:List Bool} {f:Nat} {s:DT} {l:List TT} (hp:s.peeked = false) (hb:s.bad = false) (hk:s.k≤bs.length) :
  FE bs ps (f+1) s l = match Cx bs s with | none=>(l,false) | some s1=>if s1.tok.kind = 1 then (l,true) else FE bs ps f s1 (l++[s1.tok]):=by
 show (match Cx bs (if ps.getD l.length false then Fo bs s else s) with | none=>(l,false) | some s1=>if s1.tok.kind = 1 then (l,true) else FE bs ps f s1 (l++[s1.tok])) = _
 cases ps.getD l.length false with
 | false=>rfl
 | true=>simp only [if_true]; rw [Kp hp hb hk]
theorem LU {bs:List UInt8} {ps:List Bool} {f:Nat} {s:DT} {l:List TT} (hp:s.peeked = false) (hb:s.bad = false) (hk:s.k≤bs.length) (h:Cx bs s = none):FE bs ps (f+1) s l = (l,false):=by rw [NZ hp hb hk,h]
theorem N2 {bs:List UInt8} {ps:List Bool} {f:Nat} {s s1:DT} {l:List TT} (hp:s.peeked = false) (hb:s.bad = false) (hk:s.k≤bs.length) (h:Cx bs s = some s1) (h1:s1.tok.kind = 1):FE bs ps (f+1) s l = (l,true):=by rw [NZ hp hb hk,h]; simp only; rw [if_pos h1]
theorem LV {bs:List UInt8} {ps:List Bool} {f:Nat} {s s1:DT} {l:List TT} (hp:s.peeked = false) (hb:s.bad = false) (hk:s.k≤bs.length) (h:Cx bs s = some s1) (h1:s1.tok.kind≠1):FE bs ps (f+1) s l = FE bs ps f s1 (l++[s1.tok]):=by rw [NZ hp hb hk,h]; simp only; rw [if_neg h1]
def MF (bs:List UInt8) (t:TT):Prop:=t.pos≤bs.length∧(t.kind = 2→t.att = 1∨t.att = 2∨t.att = 3)
theorem S4 {bs:List UInt8} {x:TT × Nat} (h:MF bs x.1):MF bs (Fy bs x).1:=by
 obtain ⟨t,k⟩:=x;unfold Fy;simp only
 split
 ·split
  ·exact h
  ·exact h
 ·exact h
theorem Sp {bs:List UInt8} {k:Nat} {x:TT × Nat} (h:Bh bs k = some x) (hk:k≤bs.length):MF bs x.1:=by
 rw [D2] at h
 rcases hf:CJ bs k with _ | y
 ·rw [hf] at h; cases h
 ·rw [hf] at h
  obtain rfl:Fy bs y = x:=by simpa using h
  apply S4;unfold CJ at hf
  split at hf
  ·cases hf
  ·split at hf
   ·unfold D8 at hf
    split at hf
    ·cases hf
    ·split at hf
     ·cases hf; exact ⟨hk,fun _=>.inr (.inl rfl)⟩
     ·cases hf
   ·split at hf
    ·cases hf; exact ⟨hk,fun _=>.inl rfl⟩
    ·split at hf
     ·cases hf
     ·split at hf
      ·cases hf; exact ⟨hk,fun _=>.inr (.inr rfl)⟩
      ·cases hf
theorem Ps {bs:List UInt8} {last:Nat} {st:List UInt8} {k0:Nat} {x:TT × List UInt8 × Nat} (hk:k0≤bs.length) (h:C3 bs last st k0 = some x):MF bs x.1:=by
 have hg:=DU (bs:=bs) (k:=k0) (n:=0) (by omega);rw [Mf] at h;generalize goT bs k0 0 = k at *
 have tok:∀ {kd n:Nat} {st':List UInt8},Aw st' (some (AD bs k kd n 0)) = some x→kd≠2→MF bs x.1:=by
  intro kd n st' he hkd;cases he;exact ⟨hg.2,fun h=>absurd h hkd⟩
 have fld:∀ {st':List UInt8},Aw st' (Bh bs k) = some x→MF bs x.1:=by
  intro st' he
  rcases hf:Bh bs k with _ | y
  ·rw [hf] at he; cases he
  ·rw [hf] at he; cases he; exact Sp hf hg.2
 have scl:∀ {st':List UInt8},Aw st' (Bi bs k) = some x→MF bs x.1:=by
  intro st' he
  rcases hf:Bi bs k with _ | y
  ·rw [hf] at he; cases he
  ·rw [hf] at he;have:=FT hf;cases he;exact ⟨by have:=this.1.pos; show y.1.pos≤_; omega,fun h=>by have h3:=this.2; have h4:y.1.kind = 2:=h; omega⟩
 have top:∀ {b:Bool},Cq bs b st k = some x→MF bs x.1:=by
  intro b he;unfold Cq at he
  split at he
  ·exact tok he (by decide)
  ·split at he
   ·exact tok he (by decide)
   ·split at he
    ·exact tok he (by decide)
    ·exact fld he
 have msg:∀ {b:Bool},B4 bs b st k = some x→MF bs x.1:=by
  intro b he;unfold B4 at he
  split at he
  ·cases he
  ·split at he
   ·exact tok he (by decide)
   ·split at he
    ·cases he
    ·split at he
     ·exact tok he (by decide)
     ·split at he
      ·exact tok he (by decide)
      ·exact fld he
 have val:∀ {l b:Bool},BB bs l b st k = some x→MF bs x.1:=by
  intro l b he;unfold BB at he
  split at he
  ·cases he
  ·split at he
   ·exact tok he (by decide)
   ·split at he
    ·exact tok he (by decide)
    ·split at he
     ·exact tok he (by decide)
     ·exact scl he
 unfold Di at h
 split at h
 ·exact tok h (by decide)
 ·split at h
  ·exact top h
  ·split at h
   ·exact val h
   ·split at h
    ·exact msg h
    ·split at h
     ·exact val h
     ·split at h
      ·split at h
       ·exact top h
       ·split at h
        ·exact msg h
        ·exact val h
      ·split at h
       ·exact top h
       ·split at h
        ·exact msg h
        ·unfold CH at h
         split at h
         ·cases h
         ·split at h
          ·exact tok h (by decide)
          ·split at h
           ·exact tok h (by decide)
           ·cases h
theorem Ip {bs:List UInt8} {s s1:DT} (h:Db bs s = some s1) (hk:s.k≤bs.length) (ho:DOk2 s.st s.tok.kind s.k):DOk2 s1.st s1.tok.kind s1.k∧MF bs s1.tok:=by
 unfold Db BN at h
 rcases hS:C3 bs s.tok.kind s.st s.k with _ | ⟨t,st,k⟩
 ·rw [hS] at h; cases h
 ·rw [hS] at h;have h1:=Hc hk hS ho;have h2:=Ps hk hS;have h3:=(FH hS hk).le;simp only at h h1 h2 h3
  split at h
  ·rcases hS2:C3 bs t.kind st k with _ | ⟨t2,st2,k2⟩
   ·rw [hS2] at h; cases h
   ·rw [hS2] at h;cases h;exact ⟨Hc h3 hS2 h1,Ps h3 hS2⟩
  ·cases h;exact ⟨h1,h2⟩
end
end Go.Proofs.YtgdnpnipahegaaaGreatDoor
