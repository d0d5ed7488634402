/-
 The package's reader of the text form, walked: what ends a name; a name.
-/
import Derived.Test.YtgdnpnipahegaaaGreatDoorQ4
import Derived.Test.YtgdnpnipahegaaaGreatDoorQ6
import Derived.Deep.CutBlock
import Derived.Deep.DeepCutAuto
namespace Go.Proofs.YtgdnpnipahegaaaGreatDoor
open Go.ChangeShapes Go.WideShapes Go.ChangeAt Go.RowKit
set_option maxRecDepth 100000 in
set_option maxHeartbeats 1000000 in
theorem CU (c:UInt8) (w:World):Calls Tryz.prog 68 #[.int .u8 (c.toNat:Int)] w fun e w'=>e = .returned (.bool (DI c))∧w = w':=by
 have bc:=AM c;have hn:DI c = !(c.toNat == 45 || (c.toNat == 43 || (c.toNat == 46 || (c.toNat == 95 || (decide (97≤c.toNat) && decide (c.toNat≤122) || (decide (65≤c.toNat) && decide (c.toNat≤90) || decide (48≤c.toNat) && decide (c.toNat≤57))))))):=rfl;generalize c.toNat = n at *;have HN:=hid hn;clear hn
 go_enter Tryz.func68,Tryz.ntmps68
 go_wp2
 all_goals
  go_ret
  refine ⟨?_,rfl⟩;rw [HN.out]
  first
  | (refine Fm ?_; simp; omega)
  | (refine Fm ?_; simp)
theorem RR {p:UInt8→Bool} {l:List UInt8} {m:Nat} (h:m < l.length) (hd:p l[m] = true):As p (l.drop m) = As p (l.drop (m+1))+1:=by
 rw [List.drop_eq_getElem_cons h,BE,if_pos hd]
theorem RQ {p:UInt8→Bool} {l:List UInt8} {m:Nat} (h:m < l.length) (hd:p l[m] = false):As p (l.drop m) = 0:=by
 rw [List.drop_eq_getElem_cons h,BE,hd]; rfl
theorem Ms (c:UInt8):AZ c = true↔(48:Int)≤c.toNat∧(c.toNat:Int)≤57:=by unfold AZ; simp; omega
inductive IdCase (c:Nat):Prop
 | under:((c:Int) == 95) = true→IdCase c
 | lower:((c:Int) == 95) = false→(97:Int)≤(c:Int)→(c:Int)≤122→IdCase c
 | upper:((c:Int) == 95) = false→¬ (97:Int)≤(c:Int)→(65:Int)≤(c:Int)→(c:Int)≤90→IdCase c
theorem Mm {c:UInt8} (h:Gj c = true):IdCase c.toNat:=by
 unfold Gj at h;simp only [Bool.or_eq_true,Bool.and_eq_true,beq_iff_eq,decide_eq_true_eq] at h
 rcases h with (h | h) | h
 ·exact .under (by simp; omega)
 ·exact .lower (by simp; omega) (by omega) (by omega)
 ·exact .upper (by simp; omega) (by omega) (by omega) (by omega)
inductive NoCase (c:Nat):Prop
 | low:((c:Int) == 95) = false→¬ (97:Int)≤(c:Int)→¬ (65:Int)≤(c:Int)→NoCase c
 | mid:((c:Int) == 95) = false→¬ (97:Int)≤(c:Int)→(65:Int)≤(c:Int)→¬ (c:Int)≤90→NoCase c
 | high:((c:Int) == 95) = false→(97:Int)≤(c:Int)→¬ (c:Int)≤122→(65:Int)≤(c:Int)→¬ (c:Int)≤90→NoCase c
theorem Nl {c:UInt8} (h:Gj c = false):NoCase c.toNat:=by
 have h2:¬ (c.toNat = 95∨(97≤c.toNat∧c.toNat≤122)∨(65≤c.toNat∧c.toNat≤90)):=by
  intro hh
  have:Gj c = true:=by unfold Gj; simp; omega
  rw [h] at this; cases this
 by_cases h1:c.toNat < 65
 ·exact .low (by simp; omega) (by omega) (by omega)
 ·by_cases h3:c.toNat < 97
  ·exact .mid (by simp; omega) (by omega) (by omega) (by omega)
  ·exact .high (by simp; omega) (by omega) (by omega) (by omega) (by omega)
theorem Sk {c:UInt8} (h:idC c = true):IdCase c.toNat∨(((c.toNat:Int) == 95) = false∧¬ (97:Int)≤(c.toNat:Int)∧¬ (65:Int)≤(c.toNat:Int)∧(48:Int)≤(c.toNat:Int)∧(c.toNat:Int)≤57):=by
 unfold idC at h;rw [Bool.or_eq_true] at h
 rcases h with h | h
 ·exact .inl (Mm h)
 ·have:=(Ms c).1 h;exact .inr ⟨by simp; omega,by omega,by omega,this⟩
theorem T4 {c:UInt8} (h:idC c = false):NoCase c.toNat∧(¬ (48:Int)≤(c.toNat:Int)∨((48:Int)≤(c.toNat:Int)∧¬ (c.toNat:Int)≤57)):=by
 unfold idC at h;rw [Bool.or_eq_false_iff] at h;refine ⟨Nl h.1,?_⟩
 by_cases h1:(48:Int)≤(c.toNat:Int)
 ·refine .inr ⟨h1,fun h2=>?_⟩;rw [(Ms c).2 ⟨h1,h2⟩] at h;exact absurd h.2 (by simp)
 ·exact .inl h1
def IdRes (n:Nat) (w:World) (e:Ending) (w':World):Prop:=e = .returned (.int .i64 (n:Int))∧w = w'
theorem Og (neg:Bool) (c:UInt8) (l:List UInt8) (K:Nat) (hK:K = if neg && c.toNat == 45 then 1 else 0):Bb neg (c::l) = if Dm ((c::l).drop K) = 0 then 0 else K+Dm ((c::l).drop K):=by
 rw [CV];subst hK
 split
 ·rfl
 ·simp
set_option maxRecDepth 100000 in
set_option maxHeartbeats 20000000 in
theorem Ir (neg:Bool) (v:Value) (l:List UInt8) (g:Nat) (w:World) (hv:View w g v l) (hm:l.length≤100000000) :
  Calls Tryz.prog 52 #[v,.bool neg] w (IdRes (Bb neg l) w):=by
 cases l with
 | nil=>
  have HF:Hid (Bb neg [] = 0):=hid rfl
  go_enter Tryz.func52,Tryz.ntmps52
  go_wp2_with (first | ((with_reducible refine HI ?_); refine Bc _ (by rfl) _ 22 5 rfl Tryz.underlying22 _ _ _ rfl hv ?_) | fail)
  go_ret
  exact ⟨by rw [HF.out]; rfl,rfl⟩
 | cons c l=>
  have bc:=AM c
  have hml:l.length≤99999999:=by simp at hm; omega
  have h0:(0:Int).toNat < (c::l).length:=by simp
  have h1l:(1:Int)≤((c::l).length:Int):=by simp; omega
  have HN:=fun K hK=>Og neg c l K hK;obtain ⟨b,hb⟩:∃ b:Bool,b = (neg && c.toNat == 45):=⟨_,rfl⟩;rw [←hb] at HN;have HB:=hid hb;have HN1:=hid HN;clear hm hb HN;generalize Bb neg (c::l) = Z at *
  go_enter Tryz.func52,Tryz.ntmps52
  go_upto_region 5 with (first | ((with_reducible refine HI ?_); refine Bc _ (by rfl) _ 22 5 rfl Tryz.underlying22 _ _ _ rfl hv ?_) | fail)
  go_cut [17] (fun t wx=>t = .bool b∧w = wx)
  case first=>
   as_aux_lemma=>
   cases neg with
   | false=>
    have HBF:Hid (b = false):=hid HB.out
    go_wp2_with fail
    go_meet
    exact ⟨by rw [HBF.out],rfl⟩
   | true=>
    by_cases h45:c.toNat = 45
    ·have HBF:Hid (b = true):=hid (by rw [HB.out,h45]; rfl)
     have e0:((c.toNat:Int) == 45) = true:=by simp; omega
     clear h45
     go_wp2_with (first | ((with_reducible refine A0 ?_); refine Ai _ (by rfl) _ _ 22 5 rfl Tryz.underlying22 Ag _ _ _ rfl hv _ 0 rfl (by omega) h0 ?_; intro ad1 hc1; simp only [List.getElem_cons_zero,Int.toNat_zero] at hc1) | fail)
     go_meet
     exact ⟨by rw [HBF.out],rfl⟩
    ·have HBF:Hid (b = false):=hid (by rw [HB.out]; simpa using h45)
     have e0:((c.toNat:Int) == 45) = false:=by simp; omega
     clear h45
     go_wp2_with (first | ((with_reducible refine A0 ?_); refine Ai _ (by rfl) _ _ 22 5 rfl Tryz.underlying22 Ag _ _ _ rfl hv _ 0 rfl (by omega) h0 ?_; intro ad1 hc1; simp only [List.getElem_cons_zero,Int.toNat_zero] at hc1) | fail)
     go_meet
     exact ⟨by rw [HBF.out],rfl⟩
   --END
  case rest=>
   obtain ⟨rfl,rfl⟩:=hcut
   go_upto_if 17 with fail
   go_cut [5,6] (fun n s wx=>∃ K:Nat,n = .int .i64 (K:Int)∧(∃ v',s = v'∧View w g v' ((c::l).drop K))∧(c::l).drop K≠[]∧K≤1∧(K = if b then 1 else 0)∧w = wx)
   case first=>
    as_aux_lemma=>
    cases b with
    | false=>
     go_wp2_with fail
     go_meet
     exact ⟨0,rfl,⟨_,rfl,hv⟩,by simp,by omega,rfl,rfl⟩
    | true=>
     cases l with
     | nil=>
      have HF:Hid (Z = 0):=hid (HN1.out 1 rfl)
      go_wp2_with (first | ((with_reducible refine DL ?_); refine AL _ (by rfl) _ _ 22 5 rfl Tryz.underlying22 Ag _ _ _ rfl hv _ 1 rfl (by omega) h1l ?_; intro vs2 hvs2; rw [show (1:Int).toNat = 1 from rfl,List.drop_succ_cons,List.drop_zero] at hvs2) | ((with_reducible refine HI ?_); refine Bc _ (by rfl) _ 22 5 rfl Tryz.underlying22 _ _ _ rfl hvs2 ?_) | fail)
      go_ret
      exact ⟨by rw [HF.out]; rfl,rfl⟩
     | cons d l=>
      go_wp2_with (first | ((with_reducible refine DL ?_); refine AL _ (by rfl) _ _ 22 5 rfl Tryz.underlying22 Ag _ _ _ rfl hv _ 1 rfl (by omega) h1l ?_; intro vs2 hvs2; rw [show (1:Int).toNat = 1 from rfl,List.drop_succ_cons,List.drop_zero] at hvs2) | ((with_reducible refine HI ?_); refine Bc _ (by rfl) _ 22 5 rfl Tryz.underlying22 _ _ _ rfl hvs2 ?_) | fail)
      go_meet
      exact ⟨1,rfl,⟨_,rfl,hvs2⟩,by simp,by omega,rfl,rfl⟩
    --END
   case rest=>
    obtain ⟨K,rfl,⟨v1,rfl,hv1⟩,hne,hkI,hK,rfl⟩:=hcut;obtain ⟨c1,l1,hL1⟩:=List.exists_cons_of_ne_nil hne;have HN:=hid (HN1.out K hK);rw [hL1] at hv1 HN
    have hml1:l1.length≤99999999:=by
     have:=congrArg List.length hL1;simp only [List.length_drop,List.length_cons] at this;omega
    clear hne hL1 hK HN1 HB hv h0 h1l hml bc;have b1:=AM c1
    have h01:(0:Int).toNat < (c1::l1).length:=by simp
    have h11:(1:Int)≤((c1::l1).length:Int):=by simp; omega
    obtain ⟨ao1,cp1,rfl⟩:=hv1.slice
    go_upto_block 0 with fail
    go_cut [5,6] (fun n s wx=>Gj c1 = true∧n = .int .i64 ((K:Int)+1)∧(∃ v',s = v'∧View w g v' l1)∧w = wx)
    case first=>
     as_aux_lemma=>
     cases hlet:Gj c1 with
     | false=>
      have HF:Hid (Z = 0):=hid (by rw [HN.out,CB,hlet]; rfl);have hno:=Nl hlet;clear hlet
      rcases hno with ⟨e1,e2,e3⟩ | ⟨e1,e2,e3,e4⟩ | ⟨e1,e2,e3,e4,e5⟩
      all_goals
       go_wp2_with (first | ((with_reducible refine A0 ?_); refine Ai _ (by rfl) _ _ 22 5 rfl Tryz.underlying22 Ag _ _ _ rfl hv1 _ 0 rfl (by omega) h01 ?_; intro ad1 hc1; simp only [List.getElem_cons_zero,Int.toNat_zero] at hc1) | fail)
       go_ret
       exact ⟨by rw [HF.out]; rfl,rfl⟩
     | true=>
      have hyes:=Mm hlet;have HLET:=hid hlet;clear hlet HN
      rcases hyes with e1 | ⟨e1,e2,e3⟩ | ⟨e1,e2,e3,e4⟩
      all_goals
       go_wp2_with (first | ((with_reducible refine A0 ?_); refine Ai _ (by rfl) _ _ 22 5 rfl Tryz.underlying22 Ag _ _ _ rfl hv1 _ 0 rfl (by omega) h01 ?_; intro ad1 hc1; simp only [List.getElem_cons_zero,Int.toNat_zero] at hc1) | ((with_reducible refine DL ?_); refine AL _ (by rfl) _ _ 22 5 rfl Tryz.underlying22 Ag _ _ _ rfl hv1 _ 1 rfl (by omega) h11 ?_; intro vs2 hvs2; rw [show (1:Int).toNat = 1 from rfl,List.drop_succ_cons,List.drop_zero] at hvs2) | fail)
       go_meet
       exact ⟨HLET.out,by first | rfl | simp,⟨_,rfl,hvs2⟩,rfl⟩
     --END
    case rest=>
     obtain ⟨hlet,rfl,⟨v2,rfl,hv2⟩,rfl⟩:=hcut;have HN1:Hid (Z = if Eo (l1.drop (As idC l1)) then K+1+As idC l1 else 0):=hid (by rw [HN.out,CB,hlet,Bool.true_and]; split <;> simp; omega);clear hlet HN hv1 h01 h11
     go_wp2_with fail
     go_loop [5,6] (fun n s=>∃ (m:Nat) (v':Value),m≤l1.length∧n = .int .i64 ((K+1:Int)+(m:Int))∧s = v'∧View w g v' (l1.drop m)∧As idC (l1.drop m)+m = As idC l1) (fun n _=>(K+1+l1.length) - (intOf n).toNat)
     case atStart=>exact ⟨0,_,Nat.zero_le _,by first | rfl | simp,rfl,by simpa using hv2,by simp⟩
     case round=>
      obtain ⟨m,v',hml',rfl,rfl,hv',hdm⟩:=hrel;have HDM:=hid hdm;clear hdm hv2;obtain ⟨ao',cp',rfl⟩:=hv'.slice;have hll:(l1.drop m).length = l1.length - m:=List.length_drop;rw [hll] at hv'
      by_cases hlt:m < l1.length
      ·have h0:(0:Int).toNat < (l1.drop m).length:=by simp; omega
       have hge:(l1.drop m)[(0:Int).toNat]'h0 = l1[m]:=by simp
       have bcm:=AM l1[m]
       cases hdg:idC l1[m] with
       | true=>
        have HST:=hid (RR hlt hdg);have hdi:=Sk hdg;clear hdg
        rcases hdi with (d1 | ⟨d1,d2,d3⟩ | ⟨d1,d2,d3,d4⟩) | ⟨d1,d2,d3,d4,d5⟩
        all_goals
         go_wp2_with (first | ((with_reducible refine A0 ?_); refine Ai _ (by rfl) _ _ 22 5 rfl Tryz.underlying22 Ag _ _ _ rfl hv' _ 0 rfl (by omega) h0 ?_; intro ad1 hc1; rw [hge] at hc1) | ((with_reducible refine DL ?_); refine AL _ (by rfl) _ _ 22 5 rfl Tryz.underlying22 Ag _ _ _ rfl hv' _ 1 rfl (by omega) (by rw [hll]; omega) ?_; intro vs2 hvs2; rw [show (1:Int).toNat = 1 from rfl,List.drop_drop] at hvs2) | fail)
         go_round
         case rel=>exact ⟨m+1,_,by omega,by go_num,rfl,hvs2,by rw [←HDM.out,HST.out]; omega⟩
         case measure=>simp [intOf]; omega
       | false=>
        have hfin:As idC l1 = m:=by have h1:=HDM.out; have h2:=RQ hlt hdg; omega
        have HFIN:=hid (show (l1.drop (As idC l1)) = l1[m]::l1.drop (m+1) by rw [hfin]; exact List.drop_eq_getElem_cons hlt);have hdi:=T4 hdg
        cases hde:DI l1[m] with
        | true=>
         have HF:Hid (Z = K+1+m):=hid (by rw [HN1.out,HFIN.out,show Eo (l1[m]::l1.drop (m+1)) = true from hde,hfin]; rfl);have HDL:=hid (hde ▸ CU l1[m]);clear hdg hfin hde;obtain ⟨hno,hdg⟩:=hdi
         rcases hno with ⟨d1,d2,d3⟩ | ⟨d1,d2,d3,d4⟩ | ⟨d1,d2,d3,d4,d5⟩
         all_goals
          rcases hdg with g1 | ⟨g1,g2⟩
          all_goals
           first
           | (exfalso; omega)
           | skip
          all_goals
           go_wp2_with (first | ((with_reducible refine A0 ?_); refine Ai _ (by rfl) _ _ 22 5 rfl Tryz.underlying22 Ag _ _ _ rfl hv' _ 0 rfl (by omega) h0 ?_; intro ad1 hc1; rw [hge] at hc1) | (go_at_call 68; refine (HDL.out _).mono ?_; rintro e w' ⟨rfl,rfl⟩) | fail)
           go_ret
           exact ⟨by rw [HF.out]; first | rfl | (congr 2; omega),rfl⟩
        | false=>
         have HF:Hid (Z = 0):=hid (by rw [HN1.out,HFIN.out,show Eo (l1[m]::l1.drop (m+1)) = false from hde]; rfl);have HDL:=hid (hde ▸ CU l1[m]);clear hdg hfin hde;obtain ⟨hno,hdg⟩:=hdi
         rcases hno with ⟨d1,d2,d3⟩ | ⟨d1,d2,d3,d4⟩ | ⟨d1,d2,d3,d4,d5⟩
         all_goals
          rcases hdg with g1 | ⟨g1,g2⟩
          all_goals
           first
           | (exfalso; omega)
           | skip
          all_goals
           go_wp2_with (first | ((with_reducible refine A0 ?_); refine Ai _ (by rfl) _ _ 22 5 rfl Tryz.underlying22 Ag _ _ _ rfl hv' _ 0 rfl (by omega) h0 ?_; intro ad1 hc1; rw [hge] at hc1) | (go_at_call 68; refine (HDL.out _).mono ?_; rintro e w' ⟨rfl,rfl⟩) | fail)
           go_ret
           exact ⟨by rw [HF.out]; rfl,rfl⟩
      ·have hmm:m = l1.length:=by omega
       have hfin:As idC l1 = m:=by have h1:=HDM.out; rw [hmm,List.drop_length] at h1; simp [As] at h1; omega
       have HF:Hid (Z = K+1+m):=hid (by rw [HN1.out,hfin,hmm,List.drop_length]; rfl);clear hfin hmm
       go_wp2_with fail
       go_ret
       exact ⟨by rw [HF.out]; first | rfl | (congr 2; omega),rfl⟩
end Go.Proofs.YtgdnpnipahegaaaGreatDoor
