/-
 Small parts of the reader of the text form, walked: a byte's place; blanks and remarks; what needs no escape; an error.
-/
import Derived.Test.YtgdnpnipahegaaaGreatDoorQ4
import Derived.Test.YtgdnpnipahegaaaGreatDoorShelf
import Derived.Deep.CutBlock
import Derived.Deep.DeepCutAuto
import Derived.Deep.QuietTactic
import Derived.BigQuiet
import Derived.Test.YtgdnpnipahegaaaGreatDoorQ0
import Derived.ArgAppend
import Derived.Lib.AppendStr
import Derived.Deep.Onto
import Derived.BigRegion
import Derived.Laws.ResultCell
import Derived.Test.YtgdnpnipahegaaaGreatDoorQ1
import Derived.Deep.AppendLies
import Derived.Deep.RegionHeld3
import Derived.Deep.DrawnRows
namespace Go.Proofs.YtgdnpnipahegaaaGreatDoor
open Go.ChangeShapes Go.WideShapes Go.ChangeAt Go.RowKit
section
def BU:Value→Nat
 | .slice _ n _=>n
 | _=>0
theorem Cv {w:World} {g:Nat} {v:Value} {bs:List UInt8} (h:View w g v bs):BU v = bs.length:=by
 obtain ⟨ao,cp,rfl⟩:=h.slice;rfl
theorem View.slice3 {w:World} {g:Nat} {v:Value} {bs:List UInt8} (h:View w g v bs):∃ ao n c,v = .slice ao n c:=by
 obtain ⟨ao,c,rfl⟩:=h.slice;exact ⟨_,_,_,rfl⟩
theorem View.nilOf {w:World} {g:Nat}:View w g (.slice none 0 0) []:=⟨none,0,rfl,Nat.le_refl _,Nat.zero_le _,fun _=>rfl,0,fun h=>absurd rfl h,fun j hj=>by simp at hj⟩
theorem Ox (l:List UInt8):Lib.bytesOf (l.map fun c=>(c.toNat:Int)) = l:=by
 unfold Lib.bytesOf;rw [List.map_map]
 have:((fun n:Int=>UInt8.ofNat n.toNat) ∘ fun c:UInt8=>(c.toNat:Int)) = id:=by funext c; simp
 rw [this,List.map_id]
theorem ML (v:Value) (l:List UInt8) (g:Nat) (w:World) (hv:View w g v l) (hne:l≠[]) :
  Calls Tryz.prog 61 #[v,.int .u8 10] w fun e w'=>e = .returned (.int .i64 (Lib.indexByte l 10))∧w = w':=by
 obtain ⟨ao,cap,rfl,h1,h2,h3,off,h4,h5⟩:=hv;obtain rfl:=h4 hne;have h:=Tryz.bytes_IndexByte g off l.length cap (l.map fun c=>(c.toNat:Int)) 10 w (by simp) (fun i hi=>by rw [h5 i hi]; simp [List.getD_eq_getElem?_getD,hi]);rw [Ox] at h;exact h.mono fun e w' ⟨a,b⟩=>⟨a,b.symm⟩
theorem Mt:∀ l:List UInt8,(Lib.indexByte l 10 = -1∧skT true l = l.length)∨∃ i:Nat,Lib.indexByte l 10 = (i:Int)∧i < l.length∧skT true l = i+1+skT false (l.drop (i+1))
 | []=>.inl ⟨rfl,rfl⟩
 | c::l=>by
  have e:Lib.indexByte (c::l) 10 = if c == 10 then 0 else if Lib.indexByte l 10 == -1 then -1 else Lib.indexByte l 10+1:=rfl
  rw [e,G3]
  by_cases hc:c = 10
  ·subst hc
   right
   refine ⟨0,rfl,by simp,?_⟩;simp [Nat.add_comm]
  ·have h1:(c == 10) = false:=by simpa using hc
   have h2:(c.toNat != 10) = true:=by
    rw [bne_iff_ne];intro h;exact hc (UInt8.toNat_inj.1 h)
   rw [h1,h2,if_neg (by simp)]
   rcases Mt l with ⟨h3,h4⟩ | ⟨i,h3,h4,h5⟩
   ·left
    rw [h3,h4];exact ⟨rfl,by simp⟩
   ·right
    refine ⟨i+1,?_,by simp <;> omega,?_⟩
    ·rw [h3,if_neg (by simp <;> omega)]; simp
    ·rw [h5,List.drop_succ_cons]; omega
def ViewRes (g:Nat) (l:List UInt8) (w:World) (e:Ending) (w':World):Prop:=∃ v,e = .returned v∧View w g v l∧w = w'
set_option maxRecDepth 100000 in
set_option maxHeartbeats 2000000 in
theorem HY (v:Value) (l:List UInt8) (n g:Nat) (w:World) (hv:View w g v l) (hn:n≤l.length) (hm:l.length≤100000000) :
  Calls Tryz.prog 48 #[v,.int .i64 (n:Int)] w (ViewRes g (l.drop (n+skT false (l.drop n))) w):=by
 have HV:=hid hv
 have h0:(0:Int)≤(n:Int):=by omega
 have hn1:(n:Int)≤(l.length:Int):=by omega
 clear hv
 go_enter Tryz.func48,Tryz.ntmps48
 go_upto_region 2 with (first
  | ((with_reducible refine DL ?_); refine AL _ (by rfl) _ _ 22 5 rfl Tryz.underlying22 Ag _ _ _ rfl HV.out _ _ rfl h0 hn1 ?_; intro vs0 hvs0; try simp only [Int.toNat_natCast] at hvs0)
  | fail)
 go_loopw [0] (fun u wr=>∃ k,k≤(l.drop n).length∧View w g u ((l.drop n).drop k)∧skT false (l.drop n) = k+skT false ((l.drop n).drop k)∧w = wr) (fun u _=>BU u)
 case atStart=>exact ⟨0,Nat.zero_le _,hvs0,by simp,rfl⟩
 case round=>
  obtain ⟨k,hk,hu,hs,rfl⟩:=hrel;have HU:=hid hu;have HS:=hid hs;have HMU:=hid (Cv hu);clear hu hs
  rcases hr:(l.drop n).drop k with _ | ⟨c,r⟩
  ·rw [hr] at HU HS HMU;have HE:Hid (l.drop (n+skT false (l.drop n)) = []):=hid (by rw [HS.out,IJ,Nat.add_zero,←List.drop_drop,hr]);clear hr
   go_wp2_with (first | ((with_reducible refine HI ?_); refine Bc _ (by rfl) _ 22 5 rfl Tryz.underlying22 _ _ _ rfl HU.out ?_) | fail)
   go_ret
   rw [HE.out];exact ⟨_,rfl,HU.out,rfl⟩
  ·rw [hr] at HU HS HMU;have HD1:=hid (show ∀ m,(l.drop n).drop (k+(m+1)) = r.drop m from fun m=>by rw [←List.drop_drop,hr]; try rfl)
   have hkl:k+(r.length+1) = (l.drop n).length:=by have:=congrArg List.length hr; simp at this ⊢; omega
   have hrl:r.length+1≤100000000:=by simp at hkl; omega
   have hne:(0:Int) < ((c::r).length:Int):=by simp <;> omega
   have hne0:(0:Int).toNat < (c::r).length:=by simp
   have h1le:(1:Int)≤((c::r).length:Int):=by simp <;> omega
   cases hb:Ch c with
   | true=>
    have HS1:Hid (skT false (l.drop n) = (k+1)+skT false r):=hid (by rw [HS.out,CL,hb,if_pos rfl]; omega)
    have hcs:((c.toNat:Int) == 32) = true∨((c.toNat:Int) == 32) = false∧(((c.toNat:Int) == 10) = true∨((c.toNat:Int) == 10) = false∧(((c.toNat:Int) == 13) = true∨((c.toNat:Int) == 13) = false∧((c.toNat:Int) == 9) = true)):=by
     unfold Ch at hb; simp at hb ⊢; omega
    clear hb hr
    rcases hcs with q1 | ⟨q1,q2 | ⟨q2,q3 | ⟨q3,q4⟩⟩⟩
    all_goals
     go_wp2_with (first | ((with_reducible refine HI ?_); refine Bc _ (by rfl) _ 22 5 rfl Tryz.underlying22 _ _ _ rfl HU.out ?_) | ((with_reducible refine A0 ?_); refine Ai _ (by rfl) _ _ 22 5 rfl Tryz.underlying22 Ag _ _ _ rfl HU.out _ (0:Int) rfl (by decide) hne0 ?_; intro ad1 hc1; try simp only [Int.toNat_zero,List.getElem_cons_zero] at hc1) | ((with_reducible refine DL ?_); refine AL _ (by rfl) _ _ 22 5 rfl Tryz.underlying22 Ag _ _ _ rfl HU.out _ (1:Int) rfl (by decide) h1le ?_; intro vs1 hvs1; try simp only [Int.toNat_one,List.drop_succ_cons,List.drop_zero] at hvs1) | fail)
     go_roundw
     case rel=>exact ⟨k+1,by omega,by rw [HD1.out 0]; exact hvs1,by rw [HS1.out,HD1.out 0]; try rfl,trivial⟩
     case measure=>rw [HMU.out,Cv hvs1]; simp
   | false=>
    by_cases h35:c.toNat = 35
    ·have HS1:Hid (skT false (l.drop n) = (k+1)+skT true r):=hid (by rw [HS.out,CL,hb,if_neg (by simp),if_pos h35]; omega)
     have q1:((c.toNat:Int) == 32) = false:=by simp; omega
     have q2:((c.toNat:Int) == 10) = false:=by simp; omega
     have q3:((c.toNat:Int) == 13) = false:=by simp; omega
     have q4:((c.toNat:Int) == 9) = false:=by simp; omega
     have q5:((c.toNat:Int) == 35) = true:=by simp; omega
     have hIX:=hid (ML u0 (c::r) g w HU.out (by simp))
     have hc10:c.toNat≠10:=by omega
     have hil:=Mt (c::r);rw [G3,show (c.toNat != 10) = true by simpa using hc10] at hil;clear hb hr h35 hc10
     rcases hil with ⟨i1,i2⟩ | ⟨i,i1,i2,i3⟩
     ·rw [i1] at hIX;have HE:Hid (skT false (l.drop n) = (l.drop n).length):=hid (by rw [HS1.out]; simp at i2; omega);clear i1 i2
      go_wp2_with (first | ((with_reducible refine HI ?_); refine Bc _ (by rfl) _ 22 5 rfl Tryz.underlying22 _ _ _ rfl HU.out ?_) | ((with_reducible refine A0 ?_); refine Ai _ (by rfl) _ _ 22 5 rfl Tryz.underlying22 Ag _ _ _ rfl HU.out _ (0:Int) rfl (by decide) hne0 ?_; intro ad1 hc1; try simp only [Int.toNat_zero,List.getElem_cons_zero] at hc1) | (go_at_call 61; refine (Calls.mono hIX.out ?_); rintro e w' ⟨rfl,rfl⟩) | fail)
      go_roundw
      case rel=>exact ⟨(l.drop n).length,Nat.le_refl _,by rw [List.drop_length]; exact View.nilOf,by rw [HE.out,List.drop_length]; simp [IJ],trivial⟩
      case measure=>rw [HMU.out]; simp [BU]
     ·rw [i1] at hIX
      have HE:Hid (skT false (l.drop n) = k+(i+1)+skT false ((l.drop n).drop (k+(i+1)))):=hid (by
       rw [HS1.out,HD1.out i];rw [List.drop_succ_cons] at i3
       omega)
      have hI2:(i:Int)+1≤((c::r).length:Int):=by omega
      simp only [List.length_cons] at i2;clear i1 i3
      go_wp2_with (first
       | ((with_reducible refine HI ?_); refine Bc _ (by rfl) _ 22 5 rfl Tryz.underlying22 _ _ _ rfl HU.out ?_)
       | ((with_reducible refine A0 ?_); refine Ai _ (by rfl) _ _ 22 5 rfl Tryz.underlying22 Ag _ _ _ rfl HU.out _ (0:Int) rfl (by decide) hne0 ?_; intro ad1 hc1; try simp only [Int.toNat_zero,List.getElem_cons_zero] at hc1)
       | (go_at_call 61; refine (Calls.mono hIX.out ?_); rintro e w' ⟨rfl,rfl⟩)
       | ((with_reducible refine DL ?_); refine AL _ (by rfl) _ _ 22 5 rfl Tryz.underlying22 Ag _ _ _ rfl HU.out _ ((i:Int)+1) rfl (by omega) hI2 ?_; intro vs1 hvs1)
       | fail)
      have hvs2:View w g _ (r.drop i):=hvs1.eq (show (c::r).drop _ = r.drop i by rw [show ((i:Int)+1).toNat = i+1 by omega]; try rfl)
      go_roundw
      case rel=>exact ⟨k+(i+1),by omega,by rw [HD1.out i]; exact hvs2,HE.out,trivial⟩
      case measure=>rw [HMU.out,Cv hvs2]; simp <;> omega
    ·have HE:Hid (l.drop (n+skT false (l.drop n)) = c::r):=hid (by rw [HS.out,CL,hb,if_neg (by simp),if_neg h35,Nat.add_zero,←List.drop_drop,hr])
     have hcs:((c.toNat:Int) == 32) = false∧((c.toNat:Int) == 10) = false∧((c.toNat:Int) == 13) = false∧((c.toNat:Int) == 9) = false:=by
      unfold Ch at hb; simp at hb ⊢; omega
     obtain ⟨q1,q2,q3,q4⟩:=hcs
     have q5:((c.toNat:Int) == 35) = false:=by simp; omega
     clear hb hr h35
     go_wp2_with (first | ((with_reducible refine HI ?_); refine Bc _ (by rfl) _ 22 5 rfl Tryz.underlying22 _ _ _ rfl HU.out ?_) | ((with_reducible refine A0 ?_); refine Ai _ (by rfl) _ _ 22 5 rfl Tryz.underlying22 Ag _ _ _ rfl HU.out _ (0:Int) rfl (by decide) hne0 ?_; intro ad1 hc1; try simp only [Int.toNat_zero,List.getElem_cons_zero] at hc1) | fail)
     go_ret
     rw [HE.out];exact ⟨_,rfl,HU.out,rfl⟩
set_option maxRecDepth 100000 in
theorem P5 (v:Value) (l:List UInt8) (g:Nat) (w:World) (hv:View w g v l) :
  Calls Tryz.prog 96 #[v] w fun e w'=>e = .returned (.string ⟨l.toArray⟩)∧w = w':=by
 go_enter Tryz.func96,Tryz.ntmps96
 go_wp2_with (first | ((with_reducible refine Fk ?_); refine Bu _ (by rfl) _ 22 9 5 rfl Tryz.underlying22 Tryz.underlying5 Tryz.underlying9 _ _ _ rfl hv ?_) | fail)
 go_ret
 exact ⟨rfl,rfl⟩
theorem TA (l:List UInt8) (k:Nat) (hk:k < l.length) (h:ER l = k+ER (l.drop k)):(Gf l[k] = true→ER l = (k+1)+ER (l.drop (k+1)))∧(Gf l[k] = false→ER l = k):=by
 rw [List.drop_eq_getElem_cons hk] at h;unfold ER at h ⊢;rw [BE] at h;refine ⟨fun hp=>?_,fun hp=>?_⟩
 ·rw [hp,if_pos rfl] at h; omega
 ·rw [hp,if_neg (by simp)] at h; omega
set_option maxRecDepth 100000 in
set_option maxHeartbeats 2000000 in
theorem Mg (l:List UInt8) (w:World) (hm:l.length≤100000000) :
  Calls Tryz.prog 95 #[.string ⟨l.toArray⟩] w fun e w'=>e = .returned (.int .i64 (ER l:Int))∧w = w':=by
 have hsz:=Ed l
 go_enter Tryz.func95,Tryz.ntmps95
 go_wp2_with fail
 go_loop [3] (fun i=>∃ k:Nat,k≤l.length∧i = .int .i64 (k:Int)∧ER l = k+ER (l.drop k)) (fun i=>l.length - (intOf i).toNat)
 case atStart=>exact ⟨0,Nat.zero_le _,rfl,by simp⟩
 case round=>
  obtain ⟨k,hk,rfl,hn⟩:=hrel
  by_cases hlt:k < l.length
  ·have HA:=hid (TA l k hlt hn);have hge:((⟨l.toArray⟩:ByteArray)[k]'(by rw [hsz]; exact hlt)) = l[k]:=rfl;have HN:=hid hn;clear hn;generalize hc:l[k] = c at *;have bc:=AM c
   cases hp:Gf c with
   | true=>
    have HF:=hid (HA.out.1 hp);unfold Gf at hp;simp at hp
    have d1:decide ((c.toNat:Int) < 32) = false:=by simp; omega
    have d2:((c.toNat:Int) == 34) = false:=by simp; omega
    have d3:((c.toNat:Int) == 39) = false:=by simp; omega
    have d4:((c.toNat:Int) == 92) = false:=by simp; omega
    have d5:decide ((127:Int)≤(c.toNat:Int)) = false:=by simp; omega
    clear hp
    go_wp2_with fail
    go_round
    case rel=>exact ⟨k+1,by omega,by go_num,HF.out⟩
    case measure=>simp [intOf]; omega
   | false=>
    have HF:=hid (HA.out.2 hp)
    have hcs:decide ((c.toNat:Int) < 32) = true∨decide ((c.toNat:Int) < 32) = false∧(((c.toNat:Int) == 34) = true∨((c.toNat:Int) == 34) = false∧(((c.toNat:Int) == 39) = true∨((c.toNat:Int) == 39) = false∧(((c.toNat:Int) == 92) = true∨((c.toNat:Int) == 92) = false∧decide ((127:Int)≤(c.toNat:Int)) = true))):=by
     unfold Gf at hp; simp at hp ⊢; omega
    clear hp
    rcases hcs with q1 | ⟨q1,q2 | ⟨q2,q3 | ⟨q3,q4 | ⟨q4,q5⟩⟩⟩⟩
    all_goals
     go_wp2_with fail
     go_ret
     exact ⟨by rw [HF.out]; try rfl,rfl⟩
  ·have HF:Hid (ER l = k):=hid (by rw [hn,List.drop_of_length_le (by omega)]; try rfl)
   have hkl:k = l.length:=by omega
   clear hn
   go_wp2_with fail
   go_ret
   exact ⟨by rw [HF.out,hkl]; try rfl,rfl⟩
set_option maxRecDepth 100000 in
theorem I7 (v:Value) (l:List UInt8) (g:Nat) (w:World) (hv:View w g v l) (hm:l.length≤100000000) :
  Calls Tryz.prog 82 #[v] w fun e w'=>e = .returned (.int .i64 (ER l:Int))∧w = w':=by
 have HV:=hid hv;clear hv
 go_enter Tryz.func82,Tryz.ntmps82
 go_wp2_with (first | (go_at_call 96; refine (P5 _ _ _ _ HV.out).mono ?_; rintro e w' ⟨rfl,rfl⟩) | (go_at_call 95; refine (Mg l _ hm).mono ?_; rintro e w' ⟨rfl,rfl⟩) | fail)
 go_ret
 exact ⟨rfl,rfl⟩
set_option maxRecDepth 100000 in
theorem MM (f:ByteArray) (v:Value) (w:World) :
  Calls Tryz.prog 60 #[.string f,v] w fun e w'=>(∃ x,e = .returned (.iface 98 x))∧Below w.heap.size w w':=by
 go_enter Tryz.func60,Tryz.ntmps60
 go_wp2
 go_ret
 exact ⟨⟨_,rfl⟩,(Below.refl _ _).alloc (Nat.le_refl _) _⟩
set_option maxRecDepth 100000 in
theorem Aq (d v:Value) (f:ByteArray) (w:World) (hf:f.size≤100000) :
  Calls Tryz.prog 47 #[d,.string f,v] w fun e w'=>(∃ x,e = .returned (.iface 98 x))∧Below w.heap.size w w':=by
 have h14:¬ 9223372036854775807 < 14+f.size:=by omega
 clear hf
 go_enter Tryz.func47,Tryz.ntmps47
 go_wp2_with (first | (go_at_call 60; refine (MM _ _ _).mono ?_; rintro e w' ⟨⟨x,rfl⟩,hb⟩) | fail)
 go_ret
 exact ⟨⟨_,rfl⟩,hb⟩
end
section
variable {B p g:Nat} {bs:List UInt8} {vr ve vst vo vi:Value}
theorem DW.c10 {s:DT} {w:World} (h:DW B p g bs vr ve vst vo vi s w):w.cell? ⟨p,10,none⟩ = some vi∧w.frozen? ⟨p,10,none⟩ = false:=h.row 10 _ rfl
theorem DW.c9 {s:DT} {w:World} (h:DW B p g bs vr ve vst vo vi s w):w.cell? ⟨p,9,none⟩ = some vo∧w.frozen? ⟨p,9,none⟩ = false:=h.row 9 _ rfl
theorem T8 (bs:List UInt8) (k n:Nat):(bs.drop k).drop (n+skT false ((bs.drop k).drop n)) = bs.drop (goT bs k n):=by
 rw [List.drop_drop,List.drop_drop]
 congr 1
 unfold goT;omega
theorem goT_le' {bs:List UInt8} {k n:Nat} (h:k+n≤bs.length):goT bs k n≤bs.length:=by
 have:=Je false (bs.drop (k+n));simp only [List.length_drop] at this;unfold goT;omega
set_option maxRecDepth 100000 in
set_option maxHeartbeats 1000000 in
theorem CC (s:DT) (n:Nat) (w:World) (h:DW B p g bs vr ve vst vo vi s w) (hn:s.k+n≤bs.length) (hm:bs.length≤100000000) :
  Calls Tryz.prog 39 #[.pointer (some ⟨p,0,none⟩),.int .i64 (n:Int)] w fun e w'=>e = .returned (.tuple #[])∧∃ vi',DW B p g bs vr ve vst vo vi' { s with k:=goT bs s.k n } w'∧w.grownBy w' (some p):=by
 obtain ⟨c10,f10⟩:=h.c10;have HC:=hid (HY vi (bs.drop s.k) n g w h.inn (by simp; omega) (by simp; omega));rw [T8] at HC;have HH:=hid h;have HL:=hid (goT_le' hn);clear h
 go_enter Tryz.func39,Tryz.ntmps39
 go_wp2_with (first
  | (go_at_call 48; refine (Calls.mono HC.out ?_); rintro e w' ⟨v2,rfl,hv2,rfl⟩; obtain ⟨ao2,n2,cp2,rfl⟩:=View.slice3 hv2; have HV2:=hid hv2; clear hv2)
  | fail)
 refine bodyPost_ret (results_none rfl _ _ _) rfl ?_;exact ⟨rfl,_,HH.out.setIn HV2.out HL.out,AF w p 10 _⟩
end
section
def OutV (w:World) (B:Nat) (e:TypeId) (v:Value) (bs:List UInt8):Prop:=
 OwnB w B e v bs∨∃ ad:Addr,v = .slice (some ad) bs.length bs.length∧∀ j u,(byteCells bs)[j]? = some u→w.cell? (ad.add j) = some u
theorem Sx (a:Addr) (j:Nat):(a.add j).block = a.block:=by unfold Addr.add; split <;> rfl
theorem OutV.below {w w':World} {B:Nat} {e:TypeId} {v:Value} {bs:List UInt8} (h:OutV w B e v bs) (hb:Below w.heap.size w w'):OutV w' B e v bs:=by
 rcases h with h | ⟨ad,hv,hc⟩
 ·exact .inl (World.ownsRow.kept h (row:=none) ⟨hb.os,hb.tape,hb.output,hb.size,fun k hk _=>hb.block k hk⟩ (by cases v.ownBlock <;> simp))
 ·exact .inr ⟨ad,hv,fun j u hu=>(hb.cell (World.block_lt_of_cell? w _ (hc j u hu))).trans (hc j u hu)⟩
theorem OutV.slice {w:World} {B:Nat} {e:TypeId} {v:Value} {bs:List UInt8} (h:OutV w B e v bs):∃ ao c,v = .slice ao bs.length c:=by
 rcases h with h | ⟨ad,rfl,_⟩
 ·rcases h.2 with ⟨rfl,h0⟩ | ⟨g,cap,cur,rfl,_⟩
  ·exact ⟨none,0,by rw [h0]⟩
  ·exact ⟨_,_,rfl⟩
 ·exact ⟨_,_,rfl⟩
section
variable {P:Program} {ops:Array Oper} {rest:List Oper} {o:Oper} {a:Act} {Q:Exit→Act→World→Prop} {K:Act→World→Prop} {E:Prop}
theorem LW (w:World) (t ty e:TypeId) (ht:P.underlying t = some (.slice e)) (hinfo:(P.info? e).map (fun i=>(i.zero,i.size,i.bytes)) = some (some (.int .u8 0),1,1))
  (B:Nat) (hB:B≤w.heap.size) (v:Value) (bs:List UInt8) (hout:OutV w B e v bs) (ad:Addr) (m c:Nat) (ys:List UInt8) (hl:ys.length = m) (hm:1≤m)
  (hc:∀ j u,(byteCells ys)[j]? = some u→w.cell? (ad.add j) = some u) (hlen:bs.length+m≤140737488355328) :
  ∃ v' w',(Builtin.append_ #[t,t] ty #[v,.slice (some ad) m c]).run P w = .ok v' w'∧OwnB w' B e v' (bs++ys)∧Below B w w':=by
 obtain ⟨i,hi,hz,hz1,hz2⟩:=info_parts hinfo
 rcases hout with h | ⟨b,rfl,hcells⟩
 ·obtain ⟨v',w',h1,h2,h3,_⟩:=run_append_own (P:=P) w B t ty e i (.int .u8 0) 1 1 ht hi hz hz1 hz2 rfl (by decide) v bs.length (byteCells bs) h ad m c (byteCells ys) (by rw [CE,hl,Nat.mul_one]) hc (by intro u hu; simp [byteCells] at hu; obtain ⟨_,_,rfl⟩:=hu; rfl) (by unfold maxLen; omega) (by omega) hB;refine ⟨v',w',h1,?_,⟨h3.os,h3.tape,h3.output,h3.size,fun k hk=>h3.block k (by omega) (fun e=>by have:=(World.ownsRow.lt h k e.symm).1; omega)⟩⟩;unfold OwnB;rw [Co,List.length_append,hl];exact h2
 ·obtain ⟨v',w',h1,h2,h3⟩:=run_append_arg_grows (P:=P) w t ty e i (.int .u8 0) 1 1 ht hi hz hz1 hz2 rfl (by decide) b bs.length bs.length (byteCells bs) (by rw [CE,Nat.mul_one]) hcells ad m c (byteCells ys) (by rw [CE,hl,Nat.mul_one]) hc (by omega) (by unfold maxLen; omega) (by omega);refine ⟨v',w',h1,?_,⟨h3.os,h3.tape,h3.output,h3.size,fun k hk=>h3.block k (by omega) (by simp)⟩⟩;unfold OwnB;rw [Co,List.length_append,hl];exact World.ownsRow.mono h2 hB
theorem Jf (w:World) (t u ty e:TypeId) (ht:P.underlying t = some (.slice e)) (hu:P.underlying u = some .string) (hinfo:(P.info? e).map (fun i=>(i.zero,i.size,i.bytes)) = some (some (.int .u8 0),1,1))
  (B:Nat) (hB:B≤w.heap.size) (v:Value) (bs:List UInt8) (hout:OutV w B e v bs) (ys:List UInt8) (hm:1≤ys.length) (hlen:bs.length+ys.length≤140737488355328) :
  ∃ v' w',(Builtin.append_ #[t,u] ty #[v,.string ⟨ys.toArray⟩]).run P w = .ok v' w'∧OwnB w' B e v' (bs++ys)∧Below B w w':=by
 obtain ⟨i,hi,hz,hz1,hz2⟩:=info_parts hinfo;have hsz:=Ed ys
 have hstr:Lib.strCells ⟨ys.toArray⟩ = byteCells ys:=by simp [Lib.strCells,byteCells]
 rcases hout with h | ⟨b,rfl,hcells⟩
 ·obtain ⟨v',w',h1,h2,h3,_⟩:=Lib.run_append_own_string (P:=P) w B t u ty e i ht hu hi hz hz1 hz2 v bs.length (byteCells bs) h ⟨ys.toArray⟩ (by unfold maxLen; omega) (by omega) hB;refine ⟨v',w',h1,?_,⟨h3.os,h3.tape,h3.output,h3.size,fun k hk=>h3.block k (by omega) (fun e=>by have:=(World.ownsRow.lt h k e.symm).1; omega)⟩⟩;unfold OwnB;rw [Co,List.length_append,←hsz,←hstr];exact h2
 ·have hr:=Lib.run_append_grow_string (P:=P) w t u ty e i (.int .u8 0) ht hu hi hz b bs.length bs.length (byteCells bs) (by rw [CE,hz1,Nat.mul_one]) hcells ⟨ys.toArray⟩ (by omega) (by omega) (by rw [hz2]; exact growslice_fits (by omega) (by omega));have hge:=grownCap_ge w (bs.length+(⟨ys.toArray⟩:ByteArray).size) bs.length e;have hcm:=grownCap_le_maxLen w (bs.length+(⟨ys.toArray⟩:ByteArray).size) bs.length e (by unfold maxLen; omega);refine ⟨_,_,hr,?_,⟨rfl,rfl,rfl,by simp,fun k hk=>Below.heap_alloc w.drew _ k (by show k < w.heap.size; omega)⟩⟩;rw [hsz] at hge hcm ⊢;rw [hstr];have hlb:(byteCells (bs++ys)).length = (bs++ys).length:=CE _;refine ⟨by rw [hlb,Nat.mul_one],.inr ⟨w.heap.size,_,_,by rw [List.length_append],hB,heap_alloc_new w.drew _,by rw [List.length_append]; exact hge,hcm,?_,?_⟩⟩
  ·have hz1:(Value.int IntKind.u8 0).cells.size = 1:=rfl;simp only [Array.size_append,List.size_toArray,size_zeroCells,hz1,CE];omega
  ·simp only [Array.toList_append,List.append_assoc];rw [←List.append_assoc,←Co,Nat.mul_one,←hlb];exact List.take_left
theorem Ic (w:World) (hgd:o.guard = none) (s x:Operand) (t u:TypeId)
  (ho:o.op = .call { callee:=.builtin .append,args:=#[s,x],argTypes:=#[t,u] }) (e:TypeId) (ht:P.underlying t = some (.slice e)) (hu:P.underlying u = some .string) (hinfo:(P.info? e).map (fun i=>(i.zero,i.size,i.bytes)) = some (some (.int .u8 0),1,1))
  (B:Nat) (hB:B≤w.heap.size) (v:Value) (bs:List UInt8) (hs:a.eval s = v) (hout:OutV w B e v bs) (ys:List UInt8) (hx:a.eval x = .string ⟨ys.toArray⟩) (hm:1≤ys.length) (hlen:bs.length+ys.length≤140737488355328)
  (h:∀ v' w',OwnB w' B e v' (bs++ys)→Below B w w'→wpList P ops Q rest (a.put o.dst v') w'):wpList P ops Q (o::rest) a w:=by
 refine wpList_plain hgd fun K hK=>?_;obtain ⟨v',w',hr,h2,h3⟩:=Jf (P:=P) w t u o.type e ht hu hinfo B hB v bs hout ys hm hlen;unfold Oper.wp execOp;simp only [ho,resolve,invoke,builtin,Sem.run_bind,Sem.run_pure,Result.andThen_ok,List.map_toArray,List.map_cons,List.map_nil,hs,hx,hr];exact hK _ _ (h v' w' h2 h3)
theorem JD (w:World) (hw:Region.wanted o (yielded ops a.tmps) = true) (x:Operand) (src dst e:TypeId) (ho:o.op = .convert src dst x)
  (hs:P.underlying src = some (.slice e)) (he:P.underlying e = some (.int .u8)) (hd:P.underlying dst = some .string) (B:Nat)
  (v:Value) (bs:List UInt8) (hx:a.eval x = v) (hv:OutV w B e v bs)
  (h:wpList P ops Q rest (a.put o.dst (.string ⟨bs.toArray⟩)) w):wpList P ops Q (o::rest) a w:=by
 rcases hv with h1 | ⟨ad,rfl,hc⟩
 ·obtain ⟨g,hg,_⟩:=h1.view;exact Bu w hw x src dst e ho hs he hd g v bs hx hg h
 ·refine CA hw fun K hK=>?_;have hrun:(convert src dst (.slice (some ad) bs.length bs.length)).run P w = .ok (.string ⟨bs.toArray⟩) w:=
   run_convert_bytes_back w src dst e ad _ bs hs he hd (fun j hj=>hc j _ (by simp [byteCells,hj]))
  unfold Oper.wp;simp [execOp,ho,hx,hrun,Result.andThen];exact hK _ _ h
theorem Cc {w:World} {g:Nat} {v:Value} {bs:List UInt8} (hv:View w g v bs) (t e:TypeId) (ht:P.underlying t = some (.slice e)) (hinfo:(P.info? e).map (fun i=>(i.zero,i.size,i.bytes)) = some (some (.int .u8 0),1,1))
  (k:IntKind) (l:Int) (n:Nat) (hl:l = (n:Int)) (hn:n≤bs.length):∃ v',(∀ W,(Instr.slice t v (some (.int k l)) none none).run P W = .ok v' W)∧View w g v' (bs.drop n):=by
 subst hl;obtain ⟨ao,cap,rfl,h3,h4,hn0,off,h5,h6⟩:=hv;obtain ⟨inf,hi1,hz,hz1,hz2⟩:=info_parts hinfo
 have hlen:(bs.drop n).length = bs.length - n:=by simp
 refine ⟨sliced ao n bs.length cap 1,fun W=>?_,?_⟩
 ·have hs:P.underlying t = some (.slice (P.elem t)):=by simp [Program.elem,ht]
  have he:P.elem t = e:=by simp [Program.elem,ht]
  have hsz:(sizeOf (P.elem t)).run P W = .ok 1 W:=by simp [sizeOf,typeInfo,he,hi1,hz1]
  rw [run_slice_l W t ao bs.length cap hs k (n:Int) (by omega) (by omega),hsz];simp [Result.andThen]
 ·refine ⟨_,_,by rw [hlen]; try rfl,by omega,by omega,by intro he; cases ao with
   | none=>have:=hn0 rfl; omega
   | some ad=>split at he <;> simp at he,off+n,?_,?_⟩
  ·intro hne
   have:bs.length - n≠0:=by intro e; apply hne; exact List.eq_nil_of_length_eq_zero (by omega)
   have hbs:bs≠[]:=by intro e; subst e; simp at hne
   rw [if_neg (by omega),h5 hbs];simp [Addr.add_lit]
  ·intro j hj;rw [hlen] at hj
   have e1:off+n+j = off+(n+j):=by omega
   rw [e1,h6 (n+j) (by omega)];simp
theorem RA {w:World} {g:Nat} {v:Value} {bs:List UInt8} (hv:View w g v bs) (t e:TypeId) (ht:P.underlying t = some (.slice e)) (hinfo:(P.info? e).map (fun i=>(i.zero,i.size,i.bytes)) = some (some (.int .u8 0),1,1))
  (k:IntKind) (l:Int) (n:Nat) (hl:l = (n:Int)) (hn:n≤bs.length):∃ ao cp,(∀ W,(Instr.slice t v none (some (.int k l)) none).run P W = .ok (.slice ao n cp) W)∧View w g (.slice ao n cp) (bs.take n):=by
 subst hl;obtain ⟨ao,cap,rfl,h3,h4,hn0,off,h5,h6⟩:=hv;obtain ⟨inf,hi1,hz,hz1,hz2⟩:=info_parts hinfo;refine ⟨if cap = 0 then ao else ao.map (·.add (0 * 1)),cap,fun W=>?_,?_⟩
 ·have hs:P.underlying t = some (.slice (P.elem t)):=by simp [Program.elem,ht]
  have he:P.elem t = e:=by simp [Program.elem,ht]
  have hsz:(sizeOf (P.elem t)).run P W = .ok 1 W:=by simp [sizeOf,typeInfo,he,hi1,hz1]
  rw [run_slice_h W t ao bs.length cap hs k (n:Int) (by omega) (by omega),hsz]
  try rfl
 ·refine ⟨_,_,by rw [List.length_take,Nat.min_eq_left hn],by simp; omega,h4,?_,off,fun hne=>?_,fun j hj=>?_⟩
  ·intro he
   split at he
   ·assumption
   ·cases ao with
    | none=>exact hn0 rfl
    | some ad=>simp at he
  ·have hbs:bs≠[]:=fun e=>hne (by rw [e]; simp);rw [h5 hbs]
   split
   ·rfl
   ·simp [Addr.add_lit]
  ·simp only [List.length_take] at hj;rw [h6 j (by omega)];simp
end
end
section
theorem BW {w:World} {q:Nat} {cs:Array Value} {t:TypeId} (h:w.heap[q]? = some (.cells cs t (0,0))):RowAt w q cs.toList:=fun j u hu=>
 ⟨by rw [cell_of_row w q j cs t (0,0) h,←Array.getElem?_toList]; exact hu,frozen_of_row w q j cs t h⟩
set_option maxRecDepth 100000 in
theorem Iu (v:Value) (bs:List UInt8) (g:Nat) (w:World) (hv:View w g v bs) (hg:g < w.heap.size) (hgl:Glob w) (h9:9≤w.heap.size) :
  Calls Tryz.prog 13 #[v] w fun e w'=>e = .returned (.pointer (some ⟨w.heap.size,0,none⟩))∧DW w.heap.size w.heap.size g bs (.slice none 0 0) .nilIface (.slice none 0 0) v v DT.new w'∧Below w.heap.size w w':=by
 obtain ⟨ao,n,c,rfl⟩:=View.slice3 hv;have HV:=hid hv;have HG:=hid hgl;clear hv hgl
 go_enter Tryz.func13,Tryz.ntmps13
 go_wp2
 go_ret
 have hb:=(Below.refl _ w).alloc (Nat.le_refl _) (.cells #[.int .u8 0,.int .u8 0,.int .u8 0,.int .u8 0,.int .i64 0,.slice none 0 0,.string { data:=#[] },.nilIface,.slice none 0 0,.slice ao n c,.slice ao n c] 59);refine ⟨rfl,?_,hb⟩;have hv:=HV.out.below hb
 exact {
  row:=BW (heap_alloc_new w _)
  raw:=⟨none,0,rfl,Nat.le_refl _,Nat.zero_le _,fun _=>rfl,0,fun h=>absurd rfl h,fun j hj=>by simp [DT.new,TT.zero] at hj⟩
  err:=rfl
  own:=World.ownsRow_nil _ _ _ _
  orig:=hv
  inn:=hv
  le:=Nat.zero_le _
  glob:=HG.out.kept fun k hk _=>hb.block k hk
  b9:=h9
  bp:=Nat.le_refl _
  gp:=by omega
  gl:=Nat.lt_of_lt_of_le hg hb.size
  gs:=fun e=>by cases e
  ps:=fun e=>by cases e }
end
section
theorem View.to {w:World} {g:Nat} {ao:Option Addr} {m cp:Nat} {bs:List UInt8} (hv:View w g (.slice ao m cp) bs) (n:Nat) (hn:n≤bs.length):View w g (.slice ao n cp) (bs.take n):=by
 obtain ⟨ao',cap,he,h3,h4,hn0,off,h5,h6⟩:=hv
 injection he with e1 e2 e3
 subst e1 e2 e3;refine ⟨_,_,by rw [List.length_take,Nat.min_eq_left hn],by simp; omega,h4,hn0,off,fun hne=>h5 (fun e=>hne (by rw [e]; simp)),fun j hj=>?_⟩;simp only [List.length_take] at hj;rw [h6 j (by omega)];simp
theorem View.cap {w:World} {g:Nat} {ao:Option Addr} {m cp:Nat} {bs:List UInt8} (hv:View w g (.slice ao m cp) bs):bs.length≤cp:=by
 obtain ⟨ao',cap,he,h3,h4,hn0,off,h5,h6⟩:=hv
 injection he with e1 e2 e3
 subst e1 e2 e3;exact h3
theorem RowAt.below {w w':World} {q:Nat} {cs:List Value} (h:RowAt w q cs) (hq:q < w.heap.size) (hb:Below w.heap.size w w'):RowAt w' q cs:=h.kept (hb.block q hq)
theorem BV (w:World) (o:Obj):(w.alloc o).heap.size = w.heap.size+1:=by show (w.heap.push o).size = _; simp
section
variable {P:Program}
theorem Gc (w:World) (q off:Nat) (ty:TypeId) (cs:List Value) (d:TypeDesc) (hc:∀ j u,cs[j]? = some u→w.cell? ⟨q,off+j,none⟩ = some u)
  (hu:P.underlying ty = some d) (hd:(match d with | .struct _ | .array _ _=>true | _=>false) = true) (hi:(P.info? ty).map (·.size) = some cs.length) :
  (loadVar ty ⟨q,off,none⟩).run P w = .ok (.agg cs.toArray) w:=by
 have hl:(loadCells ⟨q,off,none⟩ cs.length).run P w = .ok cs.toArray w:=
  run_loadCells_list (P:=P) w ⟨q,off,none⟩ cs (fun j v hv=>by rw [Addr.add_lit]; exact hc j v hv)
 cases hq:P.info? ty with
 | none=>simp [hq] at hi
 | some i=>
  have hs:i.size = cs.length:=by simpa [hq] using hi
  have hagg:(isAgg ty).run P w = .ok true w:=by
   unfold isAgg;rw [Sem.run_bind,run_underlying hu w]
   cases d <;> simp_all
  simp [loadVar,Sem.run_bind,hagg,sizeOf,typeInfo,hq,hs,hl]
theorem Dy {fn:Func} {t:Tmp} {ty:TypeId} (h:fn.results = #[.cell t ty]) (tmps:Array Value) (w:World) (q:Nat) (cs:List Value) (d:TypeDesc)
  (hp:tmps.getD t undef = .pointer (some ⟨q,0,none⟩)) (hc:RowAt w q cs)
  (hu:P.underlying ty = some d) (hd:(match d with | .struct _ | .array _ _=>true | _=>false) = true) (hi:(P.info? ty).map (·.size) = some cs.length) :
  (results fn tmps).run P w = .ok (.agg cs.toArray) w:=by
 have hp':tmps[t]?.getD undef = .pointer (some ⟨q,0,none⟩):=by simpa using hp
 simp [results,h,hp',asAddr,Gc w q 0 ty cs d (fun j u hu=>by rw [Nat.zero_add]; exact (hc j u hu).1) hu hd hi]
theorem Ea {fn:Func} {t u:Tmp} {ty:TypeId} (h:fn.results = #[.cell t ty,.tmp u]) (tmps:Array Value) (w:World) (q:Nat) (cs:List Value) (d:TypeDesc)
  (hp:tmps.getD t undef = .pointer (some ⟨q,0,none⟩)) (hc:RowAt w q cs)
  (hu:P.underlying ty = some d) (hd:(match d with | .struct _ | .array _ _=>true | _=>false) = true) (hi:(P.info? ty).map (·.size) = some cs.length) :
  (results fn tmps).run P w = .ok (.tuple #[.agg cs.toArray,tmps.getD u undef]) w:=by
 rw [results_cell_tmp h,hp];simp [asAddr,Result.andThen,Gc w q 0 ty cs d (fun j u hu=>by rw [Nat.zero_add]; exact (hc j u hu).1) hu hd hi]
end
variable {B p g:Nat} {bs:List UInt8} {vr ve vst vo vi:Value}
def EO (vr:Value) (t:TT):Value:=.agg (AA vr t).toArray
def Ni:Value:=.agg #[.int .u8 0,.int .u8 0,.int .u8 0,.int .i64 0,.slice none 0 0,.string ⟨#[]⟩]
set_option maxRecDepth 100000 in
set_option maxHeartbeats 2000000 in
theorem D3 (s:DT) (kd at_:Nat) (n:Nat) (w:World) (h:DW B p g bs vr ve vst vo vi s w) (hn:s.k+n≤bs.length) (hm:bs.length≤100000000) :
  Calls Tryz.prog 40 #[.pointer (some ⟨p,0,none⟩),.int .u8 (kd:Int),.int .i64 (n:Int),.int .u8 (at_:Int)] w fun e w'=>∃ vr' vi',e = .returned (EO vr' ⟨kd,at_,false,0,s.k,(bs.drop s.k).take n,[]⟩)∧View w' g vr' ((bs.drop s.k).take n)∧DW B p g bs vr ve vst vo vi' { s with k:=goT bs s.k n } w'∧w.grownBy w' (some p):=by
 obtain ⟨c9,f9⟩:=h.c10;obtain ⟨c8,f8⟩:=h.c9;have HH:=hid h;obtain ⟨ao,cp,rfl⟩:=h.inn.slice;obtain ⟨ao2,cp2,rfl⟩:=h.orig.slice;have HV:=hid (h.inn.to n (by simp; omega))
 have hncp:(n:Int)≤(cp:Int):=by have:=h.inn.cap; simp at this; omega
 have hwr:(bs.length:Int) - ((bs.length - s.k:Nat):Int) = (s.k:Int):=by have h1:=h.le; omega
 have HWR:=hid hwr;clear hwr;have HG:=hid h.gl;have HO:=hid h.ownLt
 have h0:(0:Int)≤(n:Int):=by omega
 have hlp:=h.lt;clear h
 go_enter Tryz.func40,Tryz.ntmps40
 go_wp2
 go_region
 rw [HWR.out];obtain ⟨w1,hw1⟩:∃ w1,w1 = ((w.alloc (.cells #[.int .u8 0,.int .u8 0,.int .u8 0,.int .i64 0,.slice none 0 0,.string { data:=#[] }] 50)).alloc (.cells #[.int .u8 (kd:Int),.int .u8 (at_:Int),.int .u8 0,.int .i64 (s.k:Int),.slice ao n cp,.string { data:=#[] }] 50)).drew:=⟨_,rfl⟩;rw [←hw1]
 have hb1:Below w.heap.size w w1:=by rw [hw1]; exact (((Below.refl _ w).alloc (Nat.le_refl _) _).alloc (by simp) _).drew
 have hsz1:w.heap.size+2≤w1.heap.size:=by rw [hw1]; show _≤((w.alloc _).alloc _).heap.size; rw [BV,BV]; omega
 have hd1:=HH.out.below hb1
 have hr1:RowAt w1 (w.heap.size+1) [.int .u8 (kd:Int),.int .u8 (at_:Int),.int .u8 0,.int .i64 (s.k:Int),.slice ao n cp,.string { data:=#[] }]:=by
  rw [hw1];exact BW (heap_alloc2_new w _ _)
 have hr0:RowAt w1 w.heap.size [.int .u8 0,.int .u8 0,.int .u8 0,.int .i64 0,.slice none 0 0,.string { data:=#[] }]:=by
  rw [hw1];exact BW (heap_alloc2_old w _ _)
 clear hw1 c8 c9 f8 f9;have HD1:=hid hd1;have HR1:=hid hr1;have HR0:=hid hr0;clear hd1 hr1 hr0
 go_upto_region 3 with (first | (go_at_call 39; refine (CC _ _ _ HD1.out hn hm).mono ?_; rintro e w2 ⟨rfl,vi',hd2,hg2⟩) | fail)
 have HD2:=hid hd2;have HG2:=hid hg2;have hk1:w2.heap[w.heap.size+1]? = w1.heap[w.heap.size+1]?:=hg2.block _ (by omega) (by intro e; injection e with e; omega);have hk0:w2.heap[w.heap.size]? = w1.heap[w.heap.size]?:=hg2.block _ (by omega) (by intro e; injection e with e; omega);have r1:=HR1.out.kept hk1;have r0:=HR0.out.kept hk0;obtain ⟨a0,_⟩:=r1 0 _ rfl;obtain ⟨a1,_⟩:=r1 1 _ rfl;obtain ⟨a2,_⟩:=r1 2 _ rfl;obtain ⟨a3,_⟩:=r1 3 _ rfl;obtain ⟨a4,_⟩:=r1 4 _ rfl;obtain ⟨a5,_⟩:=r1 5 _ rfl;obtain ⟨b0,d0⟩:=r0 0 _ rfl;obtain ⟨b1,d1⟩:=r0 1 _ rfl;obtain ⟨b2,d2⟩:=r0 2 _ rfl;obtain ⟨b3,d3⟩:=r0 3 _ rfl;obtain ⟨b4,d4⟩:=r0 4 _ rfl;obtain ⟨b5,d5⟩:=r0 5 _ rfl;have R0:=hid r0;have hs2:=hg2.size;clear hd2 hg2 r1 r0 hk1 hk0
 go_wp2_with fail
 have hbF:Below w.heap.size w2 ((((((w2.setCell ⟨w.heap.size,0,none⟩ (.int .u8 (kd:Int))).setCell ⟨w.heap.size,1,none⟩ (.int .u8 (at_:Int))).setCell ⟨w.heap.size,2,none⟩ (.int .u8 0)).setCell ⟨w.heap.size,3,none⟩ (.int .i64 (s.k:Int))).setCell ⟨w.heap.size,4,none⟩ (.slice ao n cp)).setCell ⟨w.heap.size,5,none⟩ (.string { data:=#[] })):=
  (((((((Below.refl _ w2).setCell (p:=⟨w.heap.size,0,none⟩) (Nat.le_refl _) _).setCell (p:=⟨w.heap.size,1,none⟩) (Nat.le_refl _) _).setCell (p:=⟨w.heap.size,2,none⟩) (Nat.le_refl _) _).setCell (p:=⟨w.heap.size,3,none⟩) (Nat.le_refl _) _).setCell (p:=⟨w.heap.size,4,none⟩) (Nat.le_refl _) _).setCell (p:=⟨w.heap.size,5,none⟩) (Nat.le_refl _) _)
 have hd3:=HD2.out.belowAt w.heap.size hlp HG.out HO.out hbF;refine bodyPost_ret_by (Dy (by rfl) _ _ w.heap.size [.int .u8 (kd:Int),.int .u8 (at_:Int),.int .u8 0,.int .i64 (s.k:Int),.slice ao n cp,.string { data:=#[] }] _ (by rfl) ((((((R0.out.set 0 (by simp) _).set 1 (by simp) _).set 2 (by simp) _).set 3 (by simp) _).set 4 (by simp) _).set 5 (by simp) _) Tryz.underlying50 (by rfl) (by kernel_rfl)) (by rfl) ?_;have hgF:=Aa (EI hb1 HG2.out) hbF;exact ⟨_,vi',rfl,HV.out.kept (hgF.block g HG.out (fun e=>HH.out.gp (by injection e))),hd3,hgF⟩
end
section
def numV:Option NT→Value
 | none=>.agg #[.int .u8 0,.bool false,.int .i64 0,.int .i64 0]
 | some x=>.agg #[.int .u8 (x.kind:Int),.bool x.neg,.int .i64 (x.size:Int),.int .i64 (x.sep:Int)]
end
section
theorem GX (b:Nat):∀ (vs:List Value) (o:Nat) (w0 w:World),w0.grownBy w (some b)→w0.grownBy (w.setCells b o vs) (some b)
 | [],_,_,_,h=>h
 | v::r,o,w0,w,h=>by
  rw [World.setCells];exact GX b r (o+1) w0 _ (Cw h o v)
theorem O8 {w:World} {q:Nat} {cs vs:List Value} (h:RowAt w q cs) (hl:vs.length = cs.length):RowAt (w.setCells q 0 vs) q vs:=fun j u hu=>by
 have hj:j < vs.length:=(List.getElem?_eq_some_iff.1 hu).1
 have hth:w.there q 0 vs.length:=fun i hi=>by
  obtain ⟨h1,h2⟩:=h i cs[i] (List.getElem?_eq_getElem (by omega));rw [Nat.zero_add];exact ⟨by rw [h1]; try rfl,h2⟩
 refine ⟨?_,?_⟩
 ·have:=World.rangeAt_setCells_same w q 0 vs hth j u hu;rwa [Nat.zero_add] at this
 ·rw [World.frozen?_setCells];exact (h j cs[j] (List.getElem?_eq_getElem (by omega))).2
section
variable {N:Nat} {D:List Deferred} {a:Act} {l:List (Nat × Value)} {P:Program} {L rest:List Oper} {Q:Exit→Act→World→Prop} {w:World} {d:Nat} {ty:TypeId} {pos:String} {af:Array Edge}
theorem AJ {t:TypeId} {x y:Operand} {q:Nat} {cs vs:List Value} (H:Has N D a l) (hx:ev l x = some (.pointer (some ⟨q,0,none⟩))) (hy:ev l y = some (.agg vs.toArray)) (hr:RowAt w q cs) (hl:vs.length = cs.length)
  (hi:(P.info? t).map (·.size) = some vs.toArray.size) (h1:vs.toArray.all (·.oneCell') = true)
  (h:∀ w',RowAt w' q vs→w.grownBy w' (some q)→wpList P L.toArray Q rest a w'):wpList P L.toArray Q (⟨none,.store t x y,ty,pos,af,none⟩::rest) a w:=by
 refine wpList_store_mid rfl t x y rfl q 0 vs.toArray (H.ev hx) (H.ev hy) ?_ hi h1 ?_
 ·intro i hi';obtain ⟨h1,h2⟩:=hr i cs[i] (List.getElem?_eq_getElem (by simp at hi'; omega));rw [Nat.zero_add];exact ⟨by rw [h1]; try rfl,h2⟩
 ·exact h _ (O8 hr hl) (GX q vs 0 w w ⟨rfl,rfl,rfl,Nat.le_refl _,fun _ _ _=>rfl⟩)
end
theorem A5:Ds Tryz.prog 5:=fun w=>by simp [isAgg,Sem.run_bind,go_sem]
theorem Ey:H8 Tryz.prog 80 #[.int .u8 0,.bool false,.int .i64 0,.int .i64 0]:=fun w=>by
 simp [go_sem,Instr.alloc,newVar,newRow]
theorem C2:Tryz.prog.built 80 [] = some #[.int .u8 0,.bool false,.int .i64 0,.int .i64 0]:=by kernel_rfl
theorem F4 (k:Int) (n:Bool) (s p:Int):Tryz.prog.built 80 [(0,.int .u8 k),(1,.bool n),(2,.int .i64 s),(3,.int .i64 p)] = some #[.int .u8 k,.bool n,.int .i64 s,.int .i64 p]:=by kernel_rfl
theorem E7:Av Tryz.prog 48:=⟨_,Tryz.func48,by kernel_rfl,by kernel_rfl⟩
theorem E6:Av Tryz.prog 68:=⟨_,Tryz.func68,by kernel_rfl,by kernel_rfl⟩
end
section
section
variable {P:Program} (w:World)
theorem JS (base:Nat) (t u ty e:TypeId) (i:TypeInfo) (ht:P.underlying t = some (.slice e)) (hu:P.underlying u = some .string) (hi:P.info? e = some i) (hz:i.zero = some (.int .u8 0))
  (hsize:i.size = 1) (hby:i.bytes = 1)
  (v:Value) (n:Nat) (xs:List Value) (hown:w.ownsRow base e 1 v n xs) (s:ByteArray)
  (h63:n+s.size≤maxLen) (hbytes:n+s.size≤140737488355328) (hbase:base≤w.heap.size) :
  ∃ v' w',(Builtin.append_ #[t,u] ty #[v,.string s]).run P w = .ok v' w'∧w'.ownsRow base e 1 v' (n+s.size) (xs++Lib.strCells s)∧w.grownBy w' v.ownBlock∧
   (v'.ownBlock = v.ownBlock∨v'.ownBlock = some w.heap.size):=by
 by_cases hs0:s.size = 0
 ·
  have hn:Lib.strCells s = []:=List.eq_nil_of_length_eq_zero (by rw [Lib.strCells_length]; exact hs0)
  rcases hown.2 with ⟨rfl,rfl⟩ | ⟨g,cap,cur,rfl,hbg,hg,hnc,hcm,hcs,htake⟩
  ·obtain ⟨v',w',h1,h2,h3,h4⟩:=Lib.run_append_own_string (P:=P) w base t u ty e i ht hu hi hz hsize hby _ 0 xs hown s h63 hbytes hbase;have:=h4.2 ⟨rfl,hs0⟩;subst this;exact ⟨_,w',h1,h2,h3,.inl rfl⟩
  ·have hcs':cur.size = cap:=by simpa using hcs
   have hr:=Lib.run_append_room_string (P:=P) w t u ty e i ht hu hi hsize g n cap cur hg s (by omega) (by omega);obtain ⟨v',w',h1,h2,h3,h4⟩:=Lib.run_append_own_string (P:=P) w base t u ty e i ht hu hi hz hsize hby _ n xs hown s h63 hbytes hbase;rw [hr] at h1
   injection h1 with h1 h1'
   subst h1 h1';exact ⟨_,_,hr,h2,h3,.inl rfl⟩
 ·rcases hown.2 with ⟨rfl,rfl⟩ | ⟨g,cap,cur,rfl,hbg,hg,hnc,hcm,hcs,htake⟩
  ·obtain ⟨v',w',h1,h2,h3,h4⟩:=Lib.run_append_own_string (P:=P) w base t u ty e i ht hu hi hz hsize hby _ 0 xs hown s h63 hbytes hbase;have hr:=run_append_nil_string (P:=P) w t u ty e i (.int .u8 0) ht hu hi hz s (by omega) (by unfold maxLen at h63; omega) (by rw [hby]; omega);rw [hr] at h1
   injection h1 with h1 h1'
   subst h1 h1';exact ⟨_,_,hr,h2,h3,.inr rfl⟩
  ·have hcs':cur.size = cap:=by simpa using hcs
   have hxl:xs.length = n:=by simpa using hown.1
   obtain ⟨v',w',h1,h2,h3,h4⟩:=Lib.run_append_own_string (P:=P) w base t u ty e i ht hu hi hz hsize hby _ n xs hown s h63 hbytes hbase
   by_cases hroom:n+s.size≤cap
   ·have hr:=Lib.run_append_room_string (P:=P) w t u ty e i ht hu hi hsize g n cap cur hg s (by omega) (by omega);rw [hr] at h1
    injection h1 with h1 h1'
    subst h1 h1';exact ⟨_,_,hr,h2,h3,.inl rfl⟩
   ·have holds:∀ j u,xs[j]? = some u→w.cell? ((⟨g,0,none⟩:Addr).add j) = some u:=hown.cells (g:=g) rfl;have hr:=Lib.run_append_grow_string (P:=P) w t u ty e i (.int .u8 0) ht hu hi hz ⟨g,0,none⟩ n cap xs (by rw [hsize]; simpa using hxl) holds s (by omega) (by unfold maxLen at h63; omega) (by rw [hby]; exact growslice_fits (by omega) (by omega));rw [hr] at h1
    injection h1 with h1 h1'
    subst h1 h1';exact ⟨_,_,hr,h2,h3,.inr rfl⟩
end
theorem LN (l:List UInt8):Lib.strCells ⟨l.toArray⟩ = byteCells l:=by simp [Lib.strCells,byteCells]
theorem DR {w:World} {B:Nat} {e:TypeId} {z:Nat} {v:Value} {n:Nat} {xs:List Value} (h:w.ownsRow B e z v n xs):∃ ao c,v = .slice ao n c:=by
 rcases h.2 with ⟨rfl,h0⟩ | ⟨g,cap,cur,rfl,_⟩
 ·exact ⟨none,0,by rw [h0]⟩
 ·exact ⟨_,_,rfl⟩
theorem OwnB.sliceA {w:World} {B:Nat} {e:TypeId} {v:Value} {bs:List UInt8} (h:OwnB w B e v bs):∃ ao c,v = .slice ao bs.length c:=DR h
structure Appd (w:World) (B:Nat) (e:TypeId) (v v':Value) (bs:List UInt8) (w':World):Prop where
 own:OwnB w' B e v' bs
 grown:w.grownBy w' v.ownBlock
 lies:v'.ownBlock = v.ownBlock∨v'.ownBlock = some w.heap.size
section
variable {P:Program} {ops:Array Oper} {rest:List Oper} {o:Oper} {a:Act} {Q:Exit→Act→World→Prop} {K:Act→World→Prop} {E:Prop}
theorem MH (w:World) (s x:Operand) (t u:TypeId)
  (ho:o.op = .call { callee:=.builtin .append,args:=#[s,x],argTypes:=#[t,u] })
  (B:Nat) (e:TypeId) (ht:P.underlying t = some (.slice e)) (hu:P.underlying u = some .string) (hinfo:(P.info? e).map (fun i=>(i.zero,i.size,i.bytes)) = some (some (.int .u8 0),1,1))
  (v:Value) (bs:List UInt8) (hs:a.eval s = v) (hown:OwnB w B e v bs) (ys:List UInt8) (hx:a.eval x = .string ⟨ys.toArray⟩) (hbase:B≤w.heap.size)
  (hlen:bs.length+ys.length≤140737488355328)
  (h:∀ v' w',Appd w B e v v' (bs++ys) w'→K (a.put o.dst v') w'):o.wp P a w K Q:=by
 obtain ⟨i,hi,hz,hz1,hz2⟩:=info_parts hinfo;have hsz:(⟨ys.toArray⟩:ByteArray).size = ys.length:=Ed ys;obtain ⟨v',w',hr,h2,h3,h4⟩:=JS (P:=P) w B t u o.type e i ht hu hi hz hz1 hz2 v bs.length (byteCells bs) hown ⟨ys.toArray⟩ (by rw [hsz]; unfold maxLen; omega) (by rw [hsz]; omega) hbase;rw [LN,←Co,hsz] at h2;unfold Oper.wp execOp;simp only [ho,resolve,invoke,builtin,Sem.run_bind,Sem.run_pure,Result.andThen_ok,List.map_toArray,List.map_cons,List.map_nil,hs,hx,hr];refine h v' w' ⟨?_,h3,h4⟩;unfold OwnB;rw [List.length_append];exact h2
theorem JF (w:World) (hgd:o.guard = none) (s x:Operand) (t u:TypeId)
  (ho:o.op = .call { callee:=.builtin .append,args:=#[s,x],argTypes:=#[t,u] })
  (B:Nat) (e:TypeId) (ht:P.underlying t = some (.slice e)) (hu:P.underlying u = some .string) (hinfo:(P.info? e).map (fun i=>(i.zero,i.size,i.bytes)) = some (some (.int .u8 0),1,1))
  (v:Value) (bs:List UInt8) (hs:a.eval s = v) (hown:OwnB w B e v bs) (ys:List UInt8) (hx:a.eval x = .string ⟨ys.toArray⟩) (hbase:B≤w.heap.size)
  (hlen:bs.length+ys.length≤140737488355328)
  (h:∀ v' w',Appd w B e v v' (bs++ys) w'→wpList P ops Q rest (a.put o.dst v') w'):wpList P ops Q (o::rest) a w:=
 wpList_plain hgd fun _ hK=>MH w s x t u ho B e ht hu hinfo v bs hs hown ys hx hbase hlen fun v' w' h'=>hK _ _ (h v' w' h')
theorem Gs (w:World) (hgd:o.guard = none) (s x:Operand) (t:TypeId)
  (ho:o.op = .call { callee:=.builtin .append,args:=#[s,x],argTypes:=#[t,t] })
  (B:Nat) (e:TypeId) (ht:P.underlying t = some (.slice e)) (hinfo:(P.info? e).map (fun i=>(i.zero,i.size,i.bytes)) = some (some (.int .u8 0),1,1))
  (v:Value) (bs:List UInt8) (hs:a.eval s = v) (hown:OwnB w B e v bs) (ad:Addr) (c:Nat) (y:UInt8) (hx:a.eval x = .slice (some ad) 1 c) (hc:w.cell? ad = some (.int .u8 (y.toNat:Int))) (hbase:B≤w.heap.size)
  (hlen:bs.length+1≤140737488355328)
  (h:∀ v' w',Appd w B e v v' (bs++[y]) w'→wpList P ops Q rest (a.put o.dst v') w'):wpList P ops Q (o::rest) a w:=by
 obtain ⟨i,hi,hz,hz1,hz2⟩:=info_parts hinfo;refine wpList_append_lies w hgd s x t ho B e i (.int .u8 0) 1 1 ht hi hz hz1 hz2 rfl (by decide) v bs.length (byteCells bs) hs hown ad 1 c [.int .u8 (y.toNat:Int)] hx rfl ?_ (by intro u hu; simp at hu; subst hu; rfl) (by omega) (by unfold maxLen; omega) (by omega) hbase w.heap.size rfl ?_
 ·intro j u hj
  match j,hj with
  | 0,hj=>simp at hj; subst hj; simpa [Addr.add] using hc
 ·intro g cap w' hown' hgrow hat hlt;refine h _ w' ⟨?_,hgrow,?_⟩
  ·have e1:byteCells bs++[Value.int .u8 (y.toNat:Int)] = byteCells (bs++[y]):=by rw [Co]; try rfl
   rw [e1] at hown';unfold OwnB
   simpa using hown'
  ·rcases hat with h | h
   ·exact .inl h.symm
   ·exact .inr (by simp [Value.ownBlock,h])
end
end
end Go.Proofs.YtgdnpnipahegaaaGreatDoor
