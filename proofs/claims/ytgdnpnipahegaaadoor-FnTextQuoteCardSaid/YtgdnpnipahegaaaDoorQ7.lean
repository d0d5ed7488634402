/-
  The reference's reader of the text form, walked: what stands behind a backslash.
-/
import Derived.Test.YtgdnpnipahegaaaDoorQ6
import Derived.Test.YtgdnpnipahegaaaDoorQ0
import Derived.ArgAppend
import Derived.Lib.AppendStr
import Derived.Deep.Onto
namespace Go.Proofs.YtgdnpnipahegaaaDoor
open Go.ChangeShapes Go.WideShapes Go.ChangeAt Go.RowKit
section
def BD:List Nat:=[97,98,102,110,114,116,118,63,92,39,34]
def Em:List Nat:=[7,8,12,10,13,9,11,63,92,39,34]
theorem Gf {c:Nat} (h:∀ x ∈ BD,c≠x):A5 c = 0:=by
  simp [BD] at h;unfold A5;simp [h]
theorem FT:∀ i:Fin 11,A5 (BD.getD i.val 0) = Em.getD i.val 0∧Em.getD i.val 0≠0:=by decide
theorem Ga {i:Nat} {c:Nat} (hi:i < 11) (hno:∀ x ∈ BD.take i,c≠x) (hc:¬ c = BD.getD i 0):∀ x ∈ BD.take (i+1),c≠x:=by
  have hl:i < BD.length:=hi;intro x hx;rw [List.take_add_one,List.mem_append] at hx
  rcases hx with hx | hx
  · exact hno x hx
  · rw [List.getElem?_eq_getElem hl] at hx
    simp at hx;subst hx;intro e;exact hc (by rw [e]; simp [List.getD_eq_getElem?_getD,List.getElem?_eq_getElem hl])
theorem Hm:∀ i:Fin 11,Em.getD i.val 0 < 256:=by decide
theorem GK {j:Nat} (hj:j < 11):(∀ h,((ByteArray.mk #[97,98,102,110,114,116,118,63,92,39,34])[j]'h).toNat = BD.getD j 0)∧(∀ h,((ByteArray.mk #[7,8,12,10,13,9,11,63,92,39,34])[j]'h).toNat = Em.getD j 0):=by
  have hjj:j = 0∨j = 1∨j = 2∨j = 3∨j = 4∨j = 5∨j = 6∨j = 7∨j = 8∨j = 9∨j = 10:=by omega
  rcases hjj with rfl | rfl | rfl | rfl | rfl | rfl | rfl | rfl | rfl | rfl | rfl
  all_goals exact ⟨fun _=>rfl,fun _=>rfl⟩
def Ej (n v:Nat):List UInt8 × Nat × Nat:=if 255 < v then ([],n+1,2) else ([UInt8.ofNat v],n+1,1)
def Ei:Nat→Nat→Nat→List UInt8→List UInt8 × Nat × Nat
  | 0,n,acc,_=>Ej n acc
  | _+1,n,acc,[]=>Ej n acc
  | f+1,n,acc,c::l=>if Ai c then Ei f (n+1) (acc * 8+(c.toNat - 48)) l else Ej n acc
theorem Gu:∀ (f n acc:Nat) (l:List UInt8),Ei f n acc l = Ej (n+min f (Au Ai l)) (BH acc (l.take (min f (Au Ai l))))
  | 0,n,acc,l=>by rw [Nat.zero_min,List.take_zero]; try rfl
  | f+1,n,acc,[]=>by rw [show Au Ai [] = 0 from rfl,Nat.min_zero]; try rfl
  | f+1,n,acc,c::l=>by
    rw [Ei,AK]
    split
    · rw [Gu f _ _ l,Nat.succ_min_succ,List.take_succ_cons]
      show _ = Ej _ (BH (acc * 8+(c.toNat - 48)) _)
      rw [show n+1+min f (Au Ai l) = n+(min f (Au Ai l)).succ by omega]
    · rw [Nat.min_zero]; try rfl
theorem octR_H {c:UInt8} (l:List UInt8) (h:Ai c = true):Fi (c::l) = Ei 2 0 (c.toNat - 48) l:=by
  have e:∀ x,BH 0 (c::x) = BH (c.toNat - 48) x:=fun x=>by
    show BH (0 * 8+(c.toNat - 48)) x = _
    rw [Nat.zero_mul,Nat.zero_add]
  rw [Gu,Fi,AK,if_pos h,show min 3 (Au Ai l+1) = min 2 (Au Ai l)+1 by omega,List.take_succ_cons,Nat.zero_add,Ej,e]
theorem ET {l:List UInt8} {j m:Nat} (hj:j < l.length) (h2:j < 2):Ei (2 - j) j m (l.drop j) = if Ai l[j] then Ei (2 - (j+1)) (j+1) (m * 8+(l[j].toNat - 48)) (l.drop (j+1)) else Ej j m:=by
  rw [List.drop_eq_getElem_cons hj,show 2 - j = (2 - (j+1))+1 by omega,Ei]
theorem Hj {l:List UInt8} {j m:Nat} (hj:l.length≤j):Ei (2 - j) j m (l.drop j) = Ej j m:=by
  rw [List.drop_of_length_le hj]
  cases 2 - j <;> rfl
def EF (n v:Nat):List UInt8 × Nat × Nat:=if n = 0 then ([],1,2) else ([UInt8.ofNat v],1+n,1)
def Er:Nat→Nat→Nat→List UInt8→List UInt8 × Nat × Nat
  | 0,n,acc,_=>EF n acc
  | _+1,n,acc,[]=>EF n acc
  | f+1,n,acc,c::l=>if Aq c then Er f (n+1) (acc * 16+AH c.toNat) l else EF n acc
theorem Gx:∀ (f n acc:Nat) (l:List UInt8),Er f n acc l = EF (n+min f (Au Aq l)) ((As acc (l.take (min f (Au Aq l)))).getD 0)
  | 0,n,acc,l=>by rw [Nat.zero_min,List.take_zero]; try rfl
  | f+1,n,acc,[]=>by rw [show Au Aq [] = 0 from rfl,Nat.min_zero]; try rfl
  | f+1,n,acc,c::l=>by
    rw [Er,AK]
    split
    · rename_i h
      rw [Gx f _ _ l,Nat.succ_min_succ,List.take_succ_cons,As,if_pos (Gw h)];rw [show n+1+min f (Au Aq l) = n+(min f (Au Aq l)).succ by omega]
    · rw [Nat.min_zero]; try rfl
theorem hexR2_H (l:List UInt8):De l = Er 2 0 0 l:=by
  rw [Gx,De,EF,Nat.zero_add]
  by_cases h:Au Aq l = 0
  · rw [if_pos h,if_pos (by omega)]
  · rw [if_neg h,if_neg (by omega)]
theorem EZ {l:List UInt8} {j m:Nat} (hj:j < l.length) (h2:j < 2):Er (2 - j) j m (l.drop j) = if Aq l[j] then Er (2 - (j+1)) (j+1) (m * 16+AH l[j].toNat) (l.drop (j+1)) else EF j m:=by
  rw [List.drop_eq_getElem_cons hj,show 2 - j = (2 - (j+1))+1 by omega,Er]
theorem Ht {l:List UInt8} {j m:Nat} (hj:l.length≤j):Er (2 - j) j m (l.drop j) = EF j m:=by
  rw [List.drop_of_length_le hj]
  cases 2 - j <;> rfl
theorem GQ:∀ c:Fin 256,Aq (UInt8.ofNat c.val) = decide (AH c.val < 16):=by decide +kernel
theorem FP (c:UInt8):Aq c = decide (AH c.toNat < 16):=by
  have:=GQ ⟨c.toNat,c.toNat_lt⟩
  simpa using this
set_option maxRecDepth 100000 in
set_option maxHeartbeats 4000000 in
theorem Ge {B p g:Nat} {vb:Value} {bs:List UInt8} {k:Nat} (w:World) (h:TS B p g vb bs k w) (hk:k < bs.length) (hm:bs.length≤100000000) :
    Calls Tryd.prog 12 #[.pointer (some ⟨p,0,none⟩)] w (EscRes B p g vb bs (k+1) w (AP (bs.drop (k+1)))):=by
  have H0:=hid h;obtain ⟨c0,c1,f1⟩:=h.c;clear h;obtain ⟨q,hq⟩:∃ q,q = k+1:=⟨_,rfl⟩;rw [←hq];have HQ:=hid hq;clear hq
  go_enter Tryd.func12,Tryd.ntmps12
  go_upto_region 1 with fail
  go_cut [] from 12 to 18 (fun wx=>TS B p g vb bs q wx∧Grw p w wx)
  case first=>
    go_wp2_with fail
    go_meet
    exact ⟨H0.out.atZ ((k:Int)+1) (by have:=HQ.out; omega) (by have:=HQ.out; omega),(Grw.refl _ _).set _ _⟩
  case rest=>
    obtain ⟨hts,hb⟩:=hcut;clear H0 c0 c1 f1;obtain ⟨c0,c1,f1⟩:=hts.c;have HT:=hid hts;have HB:=hid hb;obtain ⟨ao,cap,rfl,hcell⟩:=Bx hts.view;clear hts hb
    by_cases hlt:q < bs.length
    · obtain ⟨o,rfl,hck⟩:=hcell q hlt
      have hg2:decide ((bs.length:Int)≤(q:Int)) = false:=by simp; omega
      have HE:Hid (bs.drop q = bs[q]::bs.drop (q+1)):=hid (List.drop_eq_getElem_cons hlt);generalize bs[q] = c at *;have bc:=Ao c;clear hcell
      have hg2N:decide (bs.length≤q) = false:=by simp; omega
      go_wp2_with fail
      go_quiet (fail)
      go_wp2_with fail
      go_quiet (fail)
      go_upto_region 5 with fail
      go_cut [] from 39 to 45 (fun wx=>TS B p g (.slice (some ⟨g,o,none⟩) bs.length cap) bs (q+1) wx∧Grw p w wx)
      case first=>
        go_wp2_with fail
        go_meet
        exact ⟨(HT.out.drewN _).atZ ((q:Int)+1) (by omega) (by omega),(HB.out.drewN _).set _ _⟩
      case rest=>
        obtain ⟨hts,hb⟩:=hcut;have HT2:=hid hts;have HB2:=hid hb;clear HT HB hts hb hck c0 c1 f1 hg2N
        rename_i wd
        go_wp2_with fail
        go_loopw [7] (fun i wr=>∃ j:Nat,j≤11∧i = .int .i64 (j:Int)∧(∀ x ∈ BD.take j,c.toNat≠x)∧TS B p g (.slice (some ⟨g,o,none⟩) bs.length cap) bs (q+1) wr∧Grw p w wr) (fun i _=>11 - (intOf i).toNat)
        case atStart=>exact ⟨0,by omega,rfl,by simp,HT2.out,HB2.out⟩
        case round=>
          obtain ⟨j,hj,rfl,hno,hts,hb⟩:=hrel;clear HT2 HB2;have HT:=hid hts;have HB:=hid hb;have HNO:=hid hno;clear hts hb hno
          by_cases hj11:j < 11
          · have HM:=hid (FT ⟨j,hj11⟩)
            obtain ⟨hx,hy⟩:=GK hj11;have hyb:=Hm ⟨j,hj11⟩;have HNS:=fun hc=>Ga hj11 HNO.out (c:=c.toNat) hc;simp only at hyb HM;generalize Em.getD j 0 = y at hy hyb HM;generalize BD.getD j 0 = x at hx HM HNS
            have hj11I:(j:Int) < 11:=by omega
            have hj11N:decide ((j:Int) < 11) = true:=by simp; omega
            by_cases hc:c.toNat = x
            · have HR:Hid (AP (bs.drop q) = some ([UInt8.ofNat y],1,1)):=hid (by rw [HE.out,Bl,hc,HM.out.1,if_pos HM.out.2])
              have hs:((x:Int) == (c.toNat:Int)) = true:=by simp; omega
              clear HNO HM HNS hc
              go_wp2_with fail
              go_ret2
              exact EscRes.yes HR.out _ ⟨_,A7 _ [UInt8.ofNat y] _ _ (by simp [byteCells]; omega) (by simp [maxLen])⟩ (HT.out.below ((Below.refl _ _).alloc (Nat.le_refl _) _)) (HB.out.alloc _)
            · have HNO2:=hid (HNS hc)
              have hs:((x:Int) == (c.toNat:Int)) = false:=by simp; omega
              clear HNO HM HNS hc
              go_wp2_with fail
              go_roundw
              case rel=>exact ⟨j+1,by omega,by go_num,HNO2.out,HT.out,HB.out⟩
              case measure=>simp [intOf]; omega
          · have HZ:Hid (A5 c.toNat = 0):=hid (Gf (by
              have h0:=HNO.out
              have hj':j = 11:=by omega
              subst hj'
              exact h0))
            have hj11I:decide ((j:Int) < 11) = false:=by simp; omega
            have hj11N:decide (j < 11) = false:=by simp; omega
            clear hj hj11;clear HNO
            have HRR:Hid (AP (bs.drop q) = if Ai c then some (Fi (c::bs.drop (q+1))) else if c.toNat = 120 then some (De (bs.drop (q+1)))
              else if c.toNat = 117 then A9 4 (bs.drop (q+1)) else if c.toNat = 85 then A9 8 (bs.drop (q+1)) else if c.toNat = 88∨c.toNat = 10 then some ([],1,2) else none):=hid (by rw [HE.out,Bl,HZ.out,if_neg (by decide)])
            clear HZ HE;have hq1:q+1≤bs.length:=hlt
            by_cases hoc:Ai c = true
            · as_aux_lemma=>
                have HR:=hid (HRR.out.trans ((if_pos hoc).trans (congrArg some (octR_H _ hoc))));clear HRR
                have hd:48≤c.toNat∧c.toNat≤55:=by unfold Ai at hoc; simpa using hoc
                have e1:decide ((48:Int)≤(c.toNat:Int)) = true:=by simp; omega
                have e2:decide ((c.toNat:Int)≤55) = true:=by simp; omega
                have HD:=hid hd
                have e3:(0:Int)≤(c.toNat:Int) - 48:=by omega
                have e4:(c.toNat:Int) - 48 < 256:=by omega
                clear hoc hd;obtain ⟨m0,hm0⟩:∃ m0,m0 = c.toNat - 48:=⟨_,rfl⟩;rw [←hm0] at HR;have HM0:=hid hm0;clear hm0
                go_wp2_with fail
                go_loopw [8,9] (fun u i wr=>∃ j m:Nat,j≤2∧m+1≤8 ^ (j+1)∧u = .int .i64 (m:Int)∧i = .int .i64 (j:Int)∧Ei 2 0 m0 (bs.drop (q+1)) = Ei (2 - j) j m ((bs.drop (q+1)).drop j)∧TS B p g (.slice (some ⟨g,o,none⟩) bs.length cap) bs (q+1+j) wr∧Grw p w wr) (fun _ i _=>2 - (intOf i).toNat)
                case atStart=>exact ⟨0,m0,by omega,by have:=HD.out; have:=HM0.out; show m0+1≤8; omega,by have:=HD.out; have:=HM0.out; go_num,rfl,rfl,HT.out,HB.out⟩
                case round=>
                  obtain ⟨j,m,hj,hmm,rfl,rfl,hpt,hts,hb⟩:=hrel;clear HT HB e1 e2 e3 e4 HD HM0;have HT:=hid hts;have HB:=hid hb;have HPT:=hid hpt;obtain ⟨c0,c1,f1⟩:=hts.c;have hqle:=hts.le;obtain ⟨ao,cp,hao,hcell⟩:=Bx hts.view;cases hao;have HP:=hid fun n=>C9 (wr.drewN n) (hts.drewN n) hm;have HP0:=hid (C9 wr hts hm);clear hts hb hpt;obtain ⟨r,hr⟩:∃ r,r = q+1+j:=⟨_,rfl⟩;rw [←hr] at HT c1 hqle;simp only [←hr] at HP HP0;have HRQ:=hid hr;clear hr;obtain ⟨y,hy⟩:∃ y,y = Ck bs r:=⟨_,rfl⟩;simp only [←hy] at HP HP0
                  have hmb:m≤511:=by have:=Nat.pow_le_pow_right (show 0 < 8 by omega) (show j+1≤3 by omega); omega
                  have HMM:=hid hmm;clear hmm
                  have hyb:0≤y∧y < 256:=by
                    have:=(bs.getD r 0).toNat_lt;rw [hy]; unfold Ck; omega
                  have hcs:(j < 2∧r < bs.length∧48≤y∧y≤55)∨(j = 2∨j < 2∧decide ((48:Int)≤y) = false∨j < 2∧decide ((48:Int)≤y) = true∧decide (y≤55) = false)∧Ei (2 - j) j m ((bs.drop (q+1)).drop j) = Ej j m:=by
                    by_cases hj2:j < 2
                    · by_cases hrl:r < bs.length
                      · have hjl:j < (bs.drop (q+1)).length:=by have:=HRQ.out; simp; omega
                        have hst:=ET (m:=m) hjl hj2
                        have hcc:(bs.drop (q+1))[j] = bs[r]:=by have:=HRQ.out; subst this; simp
                        rw [hcc] at hst
                        have hyy:y = (bs[r].toNat:Int):=by rw [hy,BN hrl]
                        by_cases h1:48≤y
                        · by_cases h2:y≤55
                          · exact .inl ⟨hj2,hrl,h1,h2⟩
                          · have hno:Ai bs[r] = false:=by unfold Ai; simp; omega
                            rw [hno] at hst;exact .inr ⟨.inr (.inr ⟨hj2,by simpa using h1,by simpa using h2⟩),hst⟩
                        · have hno:Ai bs[r] = false:=by unfold Ai; simp; omega
                          rw [hno] at hst;exact .inr ⟨.inr (.inl ⟨hj2,by simpa using h1⟩),hst⟩
                      · refine .inr ⟨.inr (.inl ⟨hj2,?_⟩),Hj (by have:=HRQ.out; simp; omega)⟩
                        rw [hy,CF (by omega)]; try rfl
                    · have:j = 2:=by omega
                      subst this;exact .inr ⟨.inl rfl,rfl⟩
                  have HY:=hid hy;clear hy;have HTE:Hid (TS B p g (.slice (some ⟨g,o,none⟩) bs.length cap) bs (q+(j+1)) wr):=hid (by have:=HT.out; rw [HRQ.out,show q+1+j = q+(j+1) by omega] at this; exact this)
                  rcases hcs with ⟨hj2,hrl,y1,y2⟩ | ⟨hcs,hend⟩
                  · have hjl:j < (bs.drop (q+1)).length:=by have:=HRQ.out; simp; omega
                    have hst:=ET (m:=m) hjl hj2
                    have hcc:(bs.drop (q+1))[j] = bs[r]:=by have:=HRQ.out; subst this; simp
                    rw [hcc] at hst
                    have hyy:y = (bs[r].toNat:Int):=by rw [HY.out,BN hrl]
                    have hoc:Ai bs[r] = true:=by unfold Ai; simp; omega
                    rw [hoc,if_pos rfl] at hst;obtain ⟨o',ho',hck⟩:=hcell r hrl;cases ho';have HST:=hid hst;generalize bs[r] = d at *;clear hst hcc hoc hcell;subst hyy;have bd:=Ao d
                    have e1:decide ((48:Int)≤(d.toNat:Int)) = true:=by simpa using y1
                    have e2:decide ((d.toNat:Int)≤55) = true:=by simpa using y2
                    have e3:(0:Int)≤(d.toNat:Int) - 48:=by omega
                    have e4:(d.toNat:Int) - 48 < 256:=by omega
                    have hj2I:decide ((j:Int) < 2) = true:=by simp; omega
                    go_wp2_with (first
                          | (go_at_call 17; first
                             | (refine (Calls.mono HP0.out ?_); rintro e w1 ⟨rfl,n1,rfl⟩)
                             | (refine (Calls.mono (HP.out _) ?_); rintro e w1 ⟨rfl,n2,rfl⟩))
                          | fail)
                    go_quiet (fail)
                    go_wp2_with fail
                    go_roundw
                    case rel=>
                      refine ⟨j+1,m * 8+(d.toNat - 48),by omega,?_,by go_num,by go_num,by rw [HPT.out,HST.out],?_,?_⟩
                      · have:=HMM.out
                        rw [Nat.pow_succ]; omega
                      · exact (HT.out.drewN _).atZ ((r:Int)+1) (by have:=HRQ.out; omega) (by have:=HRQ.out; omega)
                      · exact (HB.out.drewN _).set _ _
                    case measure=>simp [intOf]; omega
                  · have HEND:=hid (HR.out.trans (congrArg some (HPT.out.trans hend)))
                    clear hend HY hcell
                    by_cases hbig:255 < m
                    · have HEE:Hid (Ej j m = ([],j+1,2)):=hid (if_pos hbig)
                      have hbN:decide (255 < (m:Int)) = true:=by simp; omega
                      clear hbig
                      rcases hcs with q1 | ⟨q1,q2⟩ | ⟨q1,q2,q3⟩
                      all_goals
                        first | subst q1 | skip
                        go_wp2_with (first
                          | (go_at_call 17; first
                             | (refine (Calls.mono HP0.out ?_); rintro e w1 ⟨rfl,n1,rfl⟩)
                             | (refine (Calls.mono (HP.out _) ?_); rintro e w1 ⟨rfl,n2,rfl⟩))
                          | fail)
                        go_ret2
                        exact EscRes.yes (HEND.out.trans (congrArg some HEE.out)) _ ⟨0,View.nilOf⟩ (by first | exact HTE.out | exact HTE.out.drewN _ | exact (HTE.out.drewN _).drewN _) (by first | exact HB.out | exact HB.out.drewN _ | exact (HB.out.drewN _).drewN _)
                    · have HEE:Hid (Ej j m = ([UInt8.ofNat m],j+1,1)):=hid (if_neg hbig)
                      have hbN:decide (255 < (m:Int)) = false:=by simp; omega
                      have hm255:m≤255:=by omega
                      clear hbig
                      rcases hcs with q1 | ⟨q1,q2⟩ | ⟨q1,q2,q3⟩
                      all_goals
                        first | subst q1 | skip
                        go_wp2_with (first
                          | (go_at_call 17; first
                             | (refine (Calls.mono HP0.out ?_); rintro e w1 ⟨rfl,n1,rfl⟩)
                             | (refine (Calls.mono (HP.out _) ?_); rintro e w1 ⟨rfl,n2,rfl⟩))
                          | fail)
                        go_ret2
                        refine EscRes.yes (HEND.out.trans (congrArg some HEE.out)) _ ⟨_,A7 _ [UInt8.ofNat m] _ _ (by simp [byteCells]; omega) (by simp [maxLen])⟩ (TS.below ?_ ((Below.refl _ _).alloc (Nat.le_refl _) _)) (Grw.alloc ?_ _)
                        · first | exact HTE.out | exact HTE.out.drewN _ | exact (HTE.out.drewN _).drewN _
                        · first | exact HB.out | exact HB.out.drewN _ | exact (HB.out.drewN _).drewN _
            · have hoc':Ai c = false:=by simpa using hoc
              have hcs:decide ((48:Int)≤(c.toNat:Int)) = false∨decide ((48:Int)≤(c.toNat:Int)) = true∧decide ((c.toNat:Int)≤55) = false:=by
                unfold Ai at hoc';simp at hoc' ⊢;omega
              have HRR2:=hid (HRR.out.trans (if_neg hoc));clear HRR hoc hoc'
              by_cases h120:c.toNat = 120
              · as_aux_lemma=>
                  have HR:=hid (HRR2.out.trans ((if_pos h120).trans (congrArg some (hexR2_H _))))
                  have e0:((c.toNat:Int) == 120) = true:=by simp; omega
                  clear HRR2 h120
                  rcases hcs with g1 | ⟨g1,g2⟩
                  · exfalso; simp at g1 e0; omega
                  go_wp2_with fail
                  go_loopw [10,11] (fun u i wr=>∃ j m:Nat,j≤2∧m+1≤16 ^ j∧u = .int .i64 (m:Int)∧i = .int .i64 (j:Int)∧Er 2 0 0 (bs.drop (q+1)) = Er (2 - j) j m ((bs.drop (q+1)).drop j)∧TS B p g (.slice (some ⟨g,o,none⟩) bs.length cap) bs (q+1+j) wr∧Grw p w wr) (fun _ i _=>2 - (intOf i).toNat)
                  case atStart=>exact ⟨0,0,by omega,by decide,rfl,rfl,rfl,HT.out,HB.out⟩
                  case round=>
                    obtain ⟨j,m,hj,hmm,rfl,rfl,hpt,hts,hb⟩:=hrel;clear HT HB e0 g1 g2;have HT:=hid hts;have HB:=hid hb;have HPT:=hid hpt;obtain ⟨c0,c1,f1⟩:=hts.c;have hqle:=hts.le;obtain ⟨ao,cp,hao,hcell⟩:=Bx hts.view;cases hao;have HP0:=hid (C9 wr hts hm);clear hts hb hpt;obtain ⟨r,hr⟩:∃ r,r = q+1+j:=⟨_,rfl⟩;rw [←hr] at HT c1 hqle;simp only [←hr] at HP0;have HRQ:=hid hr;clear hr;obtain ⟨y,hy⟩:∃ y,y = Ck bs r:=⟨_,rfl⟩;simp only [←hy] at HP0
                    have hmb:m≤255:=by have:=Nat.pow_le_pow_right (show 0 < 16 by omega) (show j≤2 by omega); omega
                    have HMM:=hid hmm;clear hmm
                    have hyb:0≤y∧y < 256:=by
                      have:=(bs.getD r 0).toNat_lt;rw [hy]; unfold Ck; omega
                    have hcs:(j < 2∧∃ hrl:r < bs.length,AH (bs[r]).toNat < 16)∨(j = 2∨j < 2∧CV y = -1)∧Er (2 - j) j m ((bs.drop (q+1)).drop j) = EF j m:=by
                      by_cases hj2:j < 2
                      · by_cases hrl:r < bs.length
                        · have hjl:j < (bs.drop (q+1)).length:=by have:=HRQ.out; simp; omega
                          have hst:=EZ (m:=m) hjl hj2
                          have hcc:(bs.drop (q+1))[j] = bs[r]:=by have:=HRQ.out; subst this; simp
                          rw [hcc,FP] at hst
                          by_cases hv:AH (bs[r]).toNat < 16
                          · exact .inl ⟨hj2,hrl,hv⟩
                          · refine .inr ⟨.inr ⟨hj2,?_⟩,?_⟩
                            · rw [hy,BN hrl,DA,if_neg hv]
                            · rw [hst,if_neg (by simpa using hv)]
                        · refine .inr ⟨.inr ⟨hj2,?_⟩,Ht (by have:=HRQ.out; simp; omega)⟩
                          rw [hy,CF (by omega)]; try rfl
                      · have:j = 2:=by omega
                        subst this;exact .inr ⟨.inl rfl,rfl⟩
                    have HY:=hid hy;clear hy;have HTE:Hid (TS B p g (.slice (some ⟨g,o,none⟩) bs.length cap) bs (q+(1+j)) wr):=hid (by have:=HT.out; rw [HRQ.out,show q+1+j = q+(1+j) by omega] at this; exact this)
                    rcases hcs with ⟨hj2,hrl,hv⟩ | ⟨hcs,hend⟩
                    · have hjl:j < (bs.drop (q+1)).length:=by have:=HRQ.out; simp; omega
                      have hst:=EZ (m:=m) hjl hj2
                      have hcc:(bs.drop (q+1))[j] = bs[r]:=by have:=HRQ.out; subst this; simp
                      rw [hcc,FP,if_pos (by simpa using hv)] at hst
                      have hyy:y = (bs[r].toNat:Int):=by rw [HY.out,BN hrl]
                      obtain ⟨o',ho',hck⟩:=hcell r hrl;cases ho';have hxx:=DA bs[r];rw [if_pos hv] at hxx;generalize bs[r] = d at *;obtain ⟨x,hx⟩:∃ x,x = AH d.toNat:=⟨_,rfl⟩;rw [←hx] at hst hv hxx;have HST:=hid hst;have HX:Hid (∀ W,Calls Tryd.prog 18 #[.int .u8 (d.toNat:Int)] W fun e w'=>e = .returned (.int .i64 (x:Int))∧w' = W):=hid fun W=>(Dd _ W (Ao d).1 (Ao d).2).mono (by rintro e w' ⟨rfl,rfl⟩; exact ⟨by rw [hxx],rfl⟩);clear hst hcc hcell hx hxx;subst hyy;have bd:=Ao d
                      have hj2I:decide ((j:Int) < 2) = true:=by simp; omega
                      have hx0:decide ((0:Int)≤(x:Int)) = true:=by simp
                      go_wp2_with (first
                            | (go_at_call 17; refine (Calls.mono HP0.out ?_); rintro e w1 ⟨rfl,n1,rfl⟩)
                            | (go_at_call 18; refine (Calls.mono (HX.out _) ?_); rintro e w1 ⟨rfl,rfl⟩)
                            | fail)
                      go_quiet ((go_at_call 18; refine Calls.mono (HX.out _) ?_; rintro e w2 ⟨rfl,rfl⟩; exact ⟨rfl,_,rfl⟩))
                      go_wp2_with fail
                      go_roundw
                      case rel=>
                        refine ⟨j+1,m * 16+x,by omega,?_,by go_num,by go_num,by rw [HPT.out,HST.out],?_,?_⟩
                        · have:=HMM.out
                          rw [Nat.pow_succ]; omega
                        · exact (HT.out.drewN _).atZ ((r:Int)+1) (by have:=HRQ.out; omega) (by have:=HRQ.out; omega)
                        · exact (HB.out.drewN _).set _ _
                      case measure=>simp [intOf]; omega
                    · have HEND:=hid (HR.out.trans (congrArg some (HPT.out.trans hend)))
                      clear hend HY hcell;have HX:Hid (CV y = -1→∀ W,Calls Tryd.prog 18 #[.int .u8 y] W fun e w'=>e = .returned (.int .i64 (-1))∧w' = W):=hid fun hx W=>(Dd _ W hyb.1 hyb.2).mono (by rintro e w' ⟨rfl,rfl⟩; exact ⟨by rw [hx],rfl⟩)
                      have hcs2:decide ((j:Int) < 2) = false∨decide ((j:Int) < 2) = true∧CV y = -1:=by
                        rcases hcs with h | ⟨h,h2⟩
                        · exact .inl (by simp; omega)
                        · exact .inr ⟨by simp; omega,h2⟩
                      clear hcs
                      by_cases hj0:j = 0
                      · have HEE:Hid (EF j m = ([],1,2)):=hid (if_pos hj0)
                        have HTE1:Hid (TS B p g (.slice (some ⟨g,o,none⟩) bs.length cap) bs (q+1) wr):=hid (by have:=HTE.out; rw [hj0] at this; exact this)
                        have hbN:((j:Int) == 0) = true:=by simp; omega
                        clear hj0
                        rcases hcs2 with q1 | ⟨q1,q2⟩
                        all_goals
                          first
                            | (have HXX:=hid (HX.out q2); clear q2)
                            | have HXX:Hid ((0:Nat) = 0):=hid rfl
                          go_wp2_with (first
                            | (go_at_call 17; refine (Calls.mono HP0.out ?_); rintro e w1 ⟨rfl,n1,rfl⟩)
                            | (go_at_call 18; refine (Calls.mono (HXX.out _) ?_); rintro e w1 ⟨rfl,rfl⟩)
                            | fail)
                          go_ret2
                          exact EscRes.yes (HEND.out.trans (congrArg some HEE.out)) _ ⟨0,View.nilOf⟩ (by first | exact HTE1.out | exact HTE1.out.drewN _) (by first | exact HB.out | exact HB.out.drewN _)
                      · have HEE:Hid (EF j m = ([UInt8.ofNat m],1+j,1)):=hid (if_neg hj0)
                        have hbN:((j:Int) == 0) = false:=by simp; omega
                        clear hj0
                        rcases hcs2 with q1 | ⟨q1,q2⟩
                        all_goals
                          first
                            | (have HXX:=hid (HX.out q2); clear q2)
                            | have HXX:Hid ((0:Nat) = 0):=hid rfl
                          go_wp2_with (first
                            | (go_at_call 17; refine (Calls.mono HP0.out ?_); rintro e w1 ⟨rfl,n1,rfl⟩)
                            | (go_at_call 18; refine (Calls.mono (HXX.out _) ?_); rintro e w1 ⟨rfl,rfl⟩)
                            | fail)
                          go_ret2
                          refine EscRes.yes (HEND.out.trans (congrArg some HEE.out)) _ ⟨_,A7 _ [UInt8.ofNat m] _ _ (by simp [byteCells]; omega) (by simp [maxLen])⟩ (TS.below ?_ ((Below.refl _ _).alloc (Nat.le_refl _) _)) (Grw.alloc ?_ _)
                          · first | exact HTE.out | exact HTE.out.drewN _
                          · first | exact HB.out | exact HB.out.drewN _
              · have e120:((c.toNat:Int) == 120) = false:=by simp; omega
                have HRR3:=hid (HRR2.out.trans (if_neg h120));clear HRR2 h120
                by_cases h117:c.toNat = 117
                · as_aux_lemma=>
                    have HR:=hid (HRR3.out.trans ((if_pos h117).trans (ES 4 _)))
                    have e1:((c.toNat:Int) == 117) = true:=by simp; omega
                    have HP:=hid (ER 4 (by decide) wr HT.out hm);clear HRR3 h117
                    cases ho:ptN 0 4 (bs.drop (q+1)) with
                    | none=>
                      rw [ho] at HP HR;have HN:Hid (AP (bs.drop q) = none):=hid HR.out;clear HR ho
                      rcases hcs with g1 | ⟨g1,g2⟩
                      all_goals
                        go_wp2_with (first
                          | (go_at_call 19; refine (Calls.mono HP.out ?_); rintro e w1 ⟨⟨v1,rfl⟩,hb1⟩)
                          | fail)
                        go_ret2
                        exact EscRes.no HN.out _ (HB.out.trans hb1)
                    | some v=>
                      rw [ho] at HP HR;have HN:Hid (AP (bs.drop q) = some ((pOk v).1,1+4,(pOk v).2)):=hid (by rw [HR.out]; unfold pOk; simp only; split <;> rfl);clear HR ho
                      rcases hcs with g1 | ⟨g1,g2⟩
                      all_goals
                        go_wp2_with (first
                          | (go_at_call 19; refine (Calls.mono HP.out ?_); rintro e w1 ⟨v1,rfl,hv1,ht1,hb1⟩)
                          | fail)
                        go_ret2
                        exact EscRes.yes HN.out _ hv1 ht1 (HB.out.trans hb1)
                · have e117:((c.toNat:Int) == 117) = false:=by simp; omega
                  replace HRR3:=hid (HRR3.out.trans (if_neg h117));clear h117
                  by_cases h85:c.toNat = 85
                  · as_aux_lemma=>
                      have HR:=hid (HRR3.out.trans ((if_pos h85).trans (ES 8 _)))
                      have e1:((c.toNat:Int) == 85) = true:=by simp; omega
                      have HP:=hid (ER 8 (by decide) wr HT.out hm);clear HRR3 h85
                      cases ho:ptN 0 8 (bs.drop (q+1)) with
                      | none=>
                        rw [ho] at HP HR;have HN:Hid (AP (bs.drop q) = none):=hid HR.out;clear HR ho
                        rcases hcs with g1 | ⟨g1,g2⟩
                        all_goals
                          go_wp2_with (first
                            | (go_at_call 19; refine (Calls.mono HP.out ?_); rintro e w1 ⟨⟨v1,rfl⟩,hb1⟩)
                            | fail)
                          go_ret2
                          exact EscRes.no HN.out _ (HB.out.trans hb1)
                      | some v=>
                        rw [ho] at HP HR;have HN:Hid (AP (bs.drop q) = some ((pOk v).1,1+8,(pOk v).2)):=hid (by rw [HR.out]; unfold pOk; simp only; split <;> rfl);clear HR ho
                        rcases hcs with g1 | ⟨g1,g2⟩
                        all_goals
                          go_wp2_with (first
                            | (go_at_call 19; refine (Calls.mono HP.out ?_); rintro e w1 ⟨v1,rfl,hv1,ht1,hb1⟩)
                            | fail)
                          go_ret2
                          exact EscRes.yes HN.out _ hv1 ht1 (HB.out.trans hb1)
                  · have e85:((c.toNat:Int) == 85) = false:=by simp; omega
                    replace HRR3:=hid (HRR3.out.trans (if_neg h85));clear h85
                    by_cases h88:c.toNat = 88∨c.toNat = 10
                    · as_aux_lemma=>
                        have HN:=hid (HRR3.out.trans (if_pos h88))
                        have hx:((c.toNat:Int) == 88) = true∨((c.toNat:Int) == 88) = false∧((c.toNat:Int) == 10) = true:=by simp; omega
                        clear HRR3 h88
                        rcases hcs with g1 | ⟨g1,g2⟩ <;> rcases hx with x1 | ⟨x1,x2⟩
                        all_goals
                          go_wp2_with fail
                          go_ret2
                          exact EscRes.yes HN.out _ ⟨0,View.nilOf⟩ HT.out HB.out
                    · as_aux_lemma=>
                        have HN:=hid (HRR3.out.trans (if_neg h88))
                        have x1:((c.toNat:Int) == 88) = false:=by simp; omega
                        have x2:((c.toNat:Int) == 10) = false:=by simp; omega
                        clear HRR3 h88
                        rcases hcs with g1 | ⟨g1,g2⟩
                        all_goals
                          go_wp2_with fail
                          go_ret2
                          exact EscRes.no HN.out _ HB.out
    · have HN:Hid (AP (bs.drop q) = none):=hid (by rw [List.drop_of_length_le (by omega)]; try rfl)
      have hg2:decide ((bs.length:Int)≤(q:Int)) = true:=by simp; omega
      clear hcell
      go_wp2_with fail
      go_quiet (fail)
      go_wp2_with fail
      go_ret2
      exact EscRes.no HN.out _ (HB.out.drewN _)
end
section
def OutV (w:World) (B:Nat) (e:TypeId) (v:Value) (bs:List UInt8):Prop:=
 OwnB w B e v bs∨∃ ad:Addr,v = .slice (some ad) bs.length bs.length∧∀ j u,(byteCells bs)[j]? = some u→w.cell? (ad.add j) = some u
theorem GX (a:Addr) (j:Nat):(a.add j).block = a.block:=by unfold Addr.add; split <;> rfl
theorem OutV.below {w w':World} {B:Nat} {e:TypeId} {v:Value} {bs:List UInt8} (h:OutV w B e v bs) (hb:Below w.heap.size w w'):OutV w' B e v bs:=by
 rcases h with h | ⟨ad,hv,hc⟩
 ·exact .inl (World.ownsRow.kept h (row:=none) ⟨hb.os,hb.tape,hb.output,hb.size,fun k hk _=>hb.block k hk⟩ (by cases v.ownBlock <;> simp))
 ·exact .inr ⟨ad,hv,fun j u hu=>(hb.cell (World.block_lt_of_cell? w _ (hc j u hu))).trans (hc j u hu)⟩
theorem OutV.slice {w:World} {B:Nat} {e:TypeId} {v:Value} {bs:List UInt8} (h:OutV w B e v bs):∃ ao c,v = .slice ao bs.length c:=by
 rcases h with h | ⟨ad,rfl,_⟩
 ·rcases h.2 with ⟨rfl,h0⟩ | ⟨g,cap,cur,rfl,_⟩
  ·exact ⟨none,0,by rw [h0]⟩
  ·exact ⟨_,_,rfl⟩
 ·exact ⟨_,_,rfl⟩
section
variable {P:Program} {ops:Array Oper} {rest:List Oper} {o:Oper} {a:Act} {Q:Exit→Act→World→Prop} {K:Act→World→Prop} {E:Prop}
theorem Ed (w:World) (t ty e:TypeId) (ht:P.underlying t = some (.slice e)) (hinfo:(P.info? e).map (fun i=>(i.zero,i.size,i.bytes)) = some (some (.int .u8 0),1,1))
  (B:Nat) (hB:B≤w.heap.size) (v:Value) (bs:List UInt8) (hout:OutV w B e v bs) (ad:Addr) (m c:Nat) (ys:List UInt8) (hl:ys.length = m) (hm:1≤m)
  (hc:∀ j u,(byteCells ys)[j]? = some u→w.cell? (ad.add j) = some u) (hlen:bs.length+m≤140737488355328) :
  ∃ v' w',(Builtin.append_ #[t,t] ty #[v,.slice (some ad) m c]).run P w = .ok v' w'∧OwnB w' B e v' (bs++ys)∧Below B w w':=by
 obtain ⟨i,hi,hz,hz1,hz2⟩:=info_parts hinfo
 rcases hout with h | ⟨b,rfl,hcells⟩
 ·obtain ⟨v',w',h1,h2,h3,_⟩:=run_append_own (P:=P) w B t ty e i (.int .u8 0) 1 1 ht hi hz hz1 hz2 rfl (by decide) v bs.length (byteCells bs) h ad m c (byteCells ys) (by rw [AL,hl,Nat.mul_one]) hc (by intro u hu; simp [byteCells] at hu; obtain ⟨_,_,rfl⟩:=hu; rfl) (by unfold maxLen; omega) (by omega) hB;refine ⟨v',w',h1,?_,⟨h3.os,h3.tape,h3.output,h3.size,fun k hk=>h3.block k (by omega) (fun e=>by have:=(World.ownsRow.lt h k e.symm).1; omega)⟩⟩;unfold OwnB;rw [AB,List.length_append,hl];exact h2
 ·obtain ⟨v',w',h1,h2,h3⟩:=run_append_arg_grows (P:=P) w t ty e i (.int .u8 0) 1 1 ht hi hz hz1 hz2 rfl (by decide) b bs.length bs.length (byteCells bs) (by rw [AL,Nat.mul_one]) hcells ad m c (byteCells ys) (by rw [AL,hl,Nat.mul_one]) hc (by omega) (by unfold maxLen; omega) (by omega);refine ⟨v',w',h1,?_,⟨h3.os,h3.tape,h3.output,h3.size,fun k hk=>h3.block k (by omega) (by simp)⟩⟩;unfold OwnB;rw [AB,List.length_append,hl];exact World.ownsRow.mono h2 hB
theorem CS (w:World) (t u ty e:TypeId) (ht:P.underlying t = some (.slice e)) (hu:P.underlying u = some .string) (hinfo:(P.info? e).map (fun i=>(i.zero,i.size,i.bytes)) = some (some (.int .u8 0),1,1))
  (B:Nat) (hB:B≤w.heap.size) (v:Value) (bs:List UInt8) (hout:OutV w B e v bs) (ys:List UInt8) (hm:1≤ys.length) (hlen:bs.length+ys.length≤140737488355328) :
  ∃ v' w',(Builtin.append_ #[t,u] ty #[v,.string ⟨ys.toArray⟩]).run P w = .ok v' w'∧OwnB w' B e v' (bs++ys)∧Below B w w':=by
 obtain ⟨i,hi,hz,hz1,hz2⟩:=info_parts hinfo;have hsz:=Am ys
 have hstr:Lib.strCells ⟨ys.toArray⟩ = byteCells ys:=by simp [Lib.strCells,byteCells]
 rcases hout with h | ⟨b,rfl,hcells⟩
 ·obtain ⟨v',w',h1,h2,h3,_⟩:=Lib.run_append_own_string (P:=P) w B t u ty e i ht hu hi hz hz1 hz2 v bs.length (byteCells bs) h ⟨ys.toArray⟩ (by unfold maxLen; omega) (by omega) hB;refine ⟨v',w',h1,?_,⟨h3.os,h3.tape,h3.output,h3.size,fun k hk=>h3.block k (by omega) (fun e=>by have:=(World.ownsRow.lt h k e.symm).1; omega)⟩⟩;unfold OwnB;rw [AB,List.length_append,←hsz,←hstr];exact h2
 ·have hr:=Lib.run_append_grow_string (P:=P) w t u ty e i (.int .u8 0) ht hu hi hz b bs.length bs.length (byteCells bs) (by rw [AL,hz1,Nat.mul_one]) hcells ⟨ys.toArray⟩ (by omega) (by omega) (by rw [hz2]; exact growslice_fits (by omega) (by omega));have hge:=grownCap_ge w (bs.length+(⟨ys.toArray⟩:ByteArray).size) bs.length e;have hcm:=grownCap_le_maxLen w (bs.length+(⟨ys.toArray⟩:ByteArray).size) bs.length e (by unfold maxLen; omega);refine ⟨_,_,hr,?_,⟨rfl,rfl,rfl,by simp,fun k hk=>Below.heap_alloc w.drew _ k (by show k < w.heap.size; omega)⟩⟩;rw [hsz] at hge hcm ⊢;rw [hstr];have hlb:(byteCells (bs++ys)).length = (bs++ys).length:=AL _;refine ⟨by rw [hlb,Nat.mul_one],.inr ⟨w.heap.size,_,_,by rw [List.length_append],hB,heap_alloc_new w.drew _,by rw [List.length_append]; exact hge,hcm,?_,?_⟩⟩
  ·have hz1:(Value.int IntKind.u8 0).cells.size = 1:=rfl;simp only [Array.size_append,List.size_toArray,size_zeroCells,hz1,AL];omega
  ·simp only [Array.toList_append,List.append_assoc];rw [←List.append_assoc,←AB,Nat.mul_one,←hlb];exact List.take_left
theorem Cn (w:World) (hgd:o.guard = none) (s x:Operand) (t u:TypeId)
  (ho:o.op = .call { callee:=.builtin .append,args:=#[s,x],argTypes:=#[t,u] }) (e:TypeId) (ht:P.underlying t = some (.slice e)) (hu:P.underlying u = some .string) (hinfo:(P.info? e).map (fun i=>(i.zero,i.size,i.bytes)) = some (some (.int .u8 0),1,1))
  (B:Nat) (hB:B≤w.heap.size) (v:Value) (bs:List UInt8) (hs:a.eval s = v) (hout:OutV w B e v bs) (ys:List UInt8) (hx:a.eval x = .string ⟨ys.toArray⟩) (hm:1≤ys.length) (hlen:bs.length+ys.length≤140737488355328)
  (h:∀ v' w',OwnB w' B e v' (bs++ys)→Below B w w'→wpList P ops Q rest (a.put o.dst v') w'):wpList P ops Q (o::rest) a w:=by
 refine wpList_plain hgd fun K hK=>?_;obtain ⟨v',w',hr,h2,h3⟩:=CS (P:=P) w t u o.type e ht hu hinfo B hB v bs hout ys hm hlen;unfold Oper.wp execOp;simp only [ho,resolve,invoke,builtin,Sem.run_bind,Sem.run_pure,Result.andThen_ok,List.map_toArray,List.map_cons,List.map_nil,hs,hx,hr];exact hK _ _ (h v' w' h2 h3)
theorem C2 (w:World) (hw:Region.wanted o (yielded ops a.tmps) = true) (x:Operand) (src dst e:TypeId) (ho:o.op = .convert src dst x)
  (hs:P.underlying src = some (.slice e)) (he:P.underlying e = some (.int .u8)) (hd:P.underlying dst = some .string) (B:Nat)
  (v:Value) (bs:List UInt8) (hx:a.eval x = v) (hv:OutV w B e v bs)
  (h:wpList P ops Q rest (a.put o.dst (.string ⟨bs.toArray⟩)) w):wpList P ops Q (o::rest) a w:=by
 rcases hv with h1 | ⟨ad,rfl,hc⟩
 ·obtain ⟨g,hg,_⟩:=h1.view;exact Bf w hw x src dst e ho hs he hd g v bs hx hg h
 ·refine AJ hw fun K hK=>?_;have hrun:(convert src dst (.slice (some ad) bs.length bs.length)).run P w = .ok (.string ⟨bs.toArray⟩) w:=
   run_convert_bytes_back w src dst e ad _ bs hs he hd (fun j hj=>hc j _ (by simp [byteCells,hj]))
  unfold Oper.wp;simp [execOp,ho,hx,hrun,Result.andThen];exact hK _ _ h
theorem Aw {w:World} {g:Nat} {v:Value} {bs:List UInt8} (hv:View w g v bs) (t e:TypeId) (ht:P.underlying t = some (.slice e)) (hinfo:(P.info? e).map (fun i=>(i.zero,i.size,i.bytes)) = some (some (.int .u8 0),1,1))
  (k:IntKind) (l:Int) (n:Nat) (hl:l = (n:Int)) (hn:n≤bs.length):∃ v',(∀ W,(Instr.slice t v (some (.int k l)) none none).run P W = .ok v' W)∧View w g v' (bs.drop n):=by
 subst hl;obtain ⟨ao,cap,rfl,h3,h4,hn0,off,h5,h6⟩:=hv;obtain ⟨inf,hi1,hz,hz1,hz2⟩:=info_parts hinfo
 have hlen:(bs.drop n).length = bs.length - n:=by simp
 refine ⟨sliced ao n bs.length cap 1,fun W=>?_,?_⟩
 ·have hs:P.underlying t = some (.slice (P.elem t)):=by simp [Program.elem,ht]
  have he:P.elem t = e:=by simp [Program.elem,ht]
  have hsz:(sizeOf (P.elem t)).run P W = .ok 1 W:=by simp [sizeOf,typeInfo,he,hi1,hz1]
  rw [run_slice_l W t ao bs.length cap hs k (n:Int) (by omega) (by omega),hsz];simp [Result.andThen]
 ·refine ⟨_,_,by rw [hlen]; try rfl,by omega,by omega,by intro he; cases ao with
   | none=>have:=hn0 rfl; omega
   | some ad=>split at he <;> simp at he,off+n,?_,?_⟩
  ·intro hne
   have:bs.length - n≠0:=by intro e; apply hne; exact List.eq_nil_of_length_eq_zero (by omega)
   have hbs:bs≠[]:=by intro e; subst e; simp at hne
   rw [if_neg (by omega),h5 hbs];simp [Addr.add_lit]
  ·intro j hj;rw [hlen] at hj
   have e1:off+n+j = off+(n+j):=by omega
   rw [e1,h6 (n+j) (by omega)];simp
theorem GF {w:World} {g:Nat} {v:Value} {bs:List UInt8} (hv:View w g v bs) (t e:TypeId) (ht:P.underlying t = some (.slice e)) (hinfo:(P.info? e).map (fun i=>(i.zero,i.size,i.bytes)) = some (some (.int .u8 0),1,1))
  (k:IntKind) (l:Int) (n:Nat) (hl:l = (n:Int)) (hn:n≤bs.length):∃ ao cp,(∀ W,(Instr.slice t v none (some (.int k l)) none).run P W = .ok (.slice ao n cp) W)∧View w g (.slice ao n cp) (bs.take n):=by
 subst hl;obtain ⟨ao,cap,rfl,h3,h4,hn0,off,h5,h6⟩:=hv;obtain ⟨inf,hi1,hz,hz1,hz2⟩:=info_parts hinfo;refine ⟨if cap = 0 then ao else ao.map (·.add (0 * 1)),cap,fun W=>?_,?_⟩
 ·have hs:P.underlying t = some (.slice (P.elem t)):=by simp [Program.elem,ht]
  have he:P.elem t = e:=by simp [Program.elem,ht]
  have hsz:(sizeOf (P.elem t)).run P W = .ok 1 W:=by simp [sizeOf,typeInfo,he,hi1,hz1]
  rw [run_slice_h W t ao bs.length cap hs k (n:Int) (by omega) (by omega),hsz]
  try rfl
 ·refine ⟨_,_,by rw [List.length_take,Nat.min_eq_left hn],by simp; omega,h4,?_,off,fun hne=>?_,fun j hj=>?_⟩
  ·intro he
   split at he
   ·assumption
   ·cases ao with
    | none=>exact hn0 rfl
    | some ad=>simp at he
  ·have hbs:bs≠[]:=fun e=>hne (by rw [e]; simp);rw [h5 hbs]
   split
   ·rfl
   ·simp [Addr.add_lit]
  ·simp only [List.length_take] at hj;rw [h6 j (by omega)];simp
end
end
end Go.Proofs.YtgdnpnipahegaaaDoor
