/-
 Small parts of the reader of the text form, walked: a byte's place; blanks and remarks; what needs no escape; an error.
-/
import Derived.Test.YtgdnpnipahegaaaDoorQ3
import Derived.Test.YtgdnpnipahegaaaDoorQ2
import Derived.Test.YtgdnpnipahegaaaDoorShelf
import Derived.Deep.CutBlock
import Derived.Deep.DeepCutAuto
import Derived.Deep.QuietTactic
import Derived.BigQuiet
import Derived.Deep.AppendLies
namespace Go.Proofs.YtgdnpnipahegaaaDoor
open Go.ChangeShapes Go.WideShapes Go.ChangeAt Go.RowKit
section
def G9:Value→Nat
 | .slice _ n _=>n
 | _=>0
theorem CR {w:World} {g:Nat} {v:Value} {bs:List UInt8} (h:View w g v bs):G9 v = bs.length:=by
 obtain ⟨ao,cp,rfl⟩:=h.slice;rfl
theorem View.slice3 {w:World} {g:Nat} {v:Value} {bs:List UInt8} (h:View w g v bs):∃ ao n c,v = .slice ao n c:=by
 obtain ⟨ao,c,rfl⟩:=h.slice;exact ⟨_,_,_,rfl⟩
theorem View.nilOf {w:World} {g:Nat}:View w g (.slice none 0 0) []:=⟨none,0,rfl,Nat.le_refl _,Nat.zero_le _,fun _=>rfl,0,fun h=>absurd rfl h,fun j hj=>by simp at hj⟩
theorem Fu (l:List UInt8):Lib.bytesOf (l.map fun c=>(c.toNat:Int)) = l:=by
 unfold Lib.bytesOf;rw [List.map_map]
 have:((fun n:Int=>UInt8.ofNat n.toNat) ∘ fun c:UInt8=>(c.toNat:Int)) = id:=by funext c; simp
 rw [this,List.map_id]
theorem EE (v:Value) (l:List UInt8) (g:Nat) (w:World) (hv:View w g v l) (hne:l≠[]) :
  Calls Tryd.prog 46 #[v,.int .u8 10] w fun e w'=>e = .returned (.int .i64 (Lib.indexByte l 10))∧w = w':=by
 obtain ⟨ao,cap,rfl,h1,h2,h3,off,h4,h5⟩:=hv;obtain rfl:=h4 hne;have h:=Tryd.bytes_IndexByte g off l.length cap (l.map fun c=>(c.toNat:Int)) 10 w (by simp) (fun i hi=>by rw [h5 i hi]; simp [List.getD_eq_getElem?_getD,hi]);rw [Fu] at h;exact h.mono fun e w' ⟨a,b⟩=>⟨a,b.symm⟩
theorem Eo:∀ l:List UInt8,(Lib.indexByte l 10 = -1∧skT true l = l.length)∨∃ i:Nat,Lib.indexByte l 10 = (i:Int)∧i < l.length∧skT true l = i+1+skT false (l.drop (i+1))
 | []=>.inl ⟨rfl,rfl⟩
 | c::l=>by
  have e:Lib.indexByte (c::l) 10 = if c == 10 then 0 else if Lib.indexByte l 10 == -1 then -1 else Lib.indexByte l 10+1:=rfl
  rw [e,FK]
  by_cases hc:c = 10
  ·subst hc
   right
   refine ⟨0,rfl,by simp,?_⟩;simp [Nat.add_comm]
  ·have h1:(c == 10) = false:=by simpa using hc
   have h2:(c.toNat != 10) = true:=by
    rw [bne_iff_ne];intro h;exact hc (UInt8.toNat_inj.1 h)
   rw [h1,h2,if_neg (by simp)]
   rcases Eo l with ⟨h3,h4⟩ | ⟨i,h3,h4,h5⟩
   ·left
    rw [h3,h4];exact ⟨rfl,by simp⟩
   ·right
    refine ⟨i+1,?_,by simp <;> omega,?_⟩
    ·rw [h3,if_neg (by simp <;> omega)]; simp
    ·rw [h5,List.drop_succ_cons]; omega
def ViewRes (g:Nat) (l:List UInt8) (w:World) (e:Ending) (w':World):Prop:=∃ v,e = .returned v∧View w g v l∧w = w'
set_option maxRecDepth 100000 in
set_option maxHeartbeats 2000000 in
theorem Ft (v:Value) (l:List UInt8) (n g:Nat) (w:World) (hv:View w g v l) (hn:n≤l.length) (hm:l.length≤100000000) :
  Calls Tryd.prog 37 #[v,.int .i64 (n:Int)] w (ViewRes g (l.drop (n+skT false (l.drop n))) w):=by
 have HV:=hid hv
 have h0:(0:Int)≤(n:Int):=by omega
 have hn1:(n:Int)≤(l.length:Int):=by omega
 clear hv
 go_enter Tryd.func37,Tryd.ntmps37
 go_upto_region 2 with (first
  | ((with_reducible refine Db ?_); refine AD _ (by rfl) _ _ 27 5 rfl Tryd.underlying27 Ab _ _ _ rfl HV.out _ _ rfl h0 hn1 ?_; intro vs0 hvs0; try simp only [Int.toNat_natCast] at hvs0)
  | fail)
 go_loopw [0] (fun u wr=>∃ k,k≤(l.drop n).length∧View w g u ((l.drop n).drop k)∧skT false (l.drop n) = k+skT false ((l.drop n).drop k)∧w = wr) (fun u _=>G9 u)
 case atStart=>exact ⟨0,Nat.zero_le _,hvs0,by simp,rfl⟩
 case round=>
  obtain ⟨k,hk,hu,hs,rfl⟩:=hrel;have HU:=hid hu;have HS:=hid hs;have HMU:=hid (CR hu);clear hu hs
  rcases hr:(l.drop n).drop k with _ | ⟨c,r⟩
  ·rw [hr] at HU HS HMU;have HE:Hid (l.drop (n+skT false (l.drop n)) = []):=hid (by rw [HS.out,Gm,Nat.add_zero,←List.drop_drop,hr]);clear hr
   go_wp2_with (first | ((with_reducible refine Cy ?_); refine Al _ (by rfl) _ 27 5 rfl Tryd.underlying27 _ _ _ rfl HU.out ?_) | fail)
   go_ret
   rw [HE.out];exact ⟨_,rfl,HU.out,rfl⟩
  ·rw [hr] at HU HS HMU;have HD1:=hid (show ∀ m,(l.drop n).drop (k+(m+1)) = r.drop m from fun m=>by rw [←List.drop_drop,hr]; try rfl)
   have hkl:k+(r.length+1) = (l.drop n).length:=by have:=congrArg List.length hr; simp at this ⊢; omega
   have hrl:r.length+1≤100000000:=by simp at hkl; omega
   have hne:(0:Int) < ((c::r).length:Int):=by simp <;> omega
   have hne0:(0:Int).toNat < (c::r).length:=by simp
   have h1le:(1:Int)≤((c::r).length:Int):=by simp <;> omega
   cases hb:Ew c with
   | true=>
    have HS1:Hid (skT false (l.drop n) = (k+1)+skT false r):=hid (by rw [HS.out,Dp,hb,if_pos rfl]; omega)
    have hcs:((c.toNat:Int) == 32) = true∨((c.toNat:Int) == 32) = false∧(((c.toNat:Int) == 10) = true∨((c.toNat:Int) == 10) = false∧(((c.toNat:Int) == 13) = true∨((c.toNat:Int) == 13) = false∧((c.toNat:Int) == 9) = true)):=by
     unfold Ew at hb; simp at hb ⊢; omega
    clear hb hr
    rcases hcs with q1 | ⟨q1,q2 | ⟨q2,q3 | ⟨q3,q4⟩⟩⟩
    all_goals
     go_wp2_with (first | ((with_reducible refine Cy ?_); refine Al _ (by rfl) _ 27 5 rfl Tryd.underlying27 _ _ _ rfl HU.out ?_) | ((with_reducible refine Ay ?_); refine Ad _ (by rfl) _ _ 27 5 rfl Tryd.underlying27 Ab _ _ _ rfl HU.out _ (0:Int) rfl (by decide) hne0 ?_; intro ad1 hc1; try simp only [Int.toNat_zero,List.getElem_cons_zero] at hc1) | ((with_reducible refine Db ?_); refine AD _ (by rfl) _ _ 27 5 rfl Tryd.underlying27 Ab _ _ _ rfl HU.out _ (1:Int) rfl (by decide) h1le ?_; intro vs1 hvs1; try simp only [Int.toNat_one,List.drop_succ_cons,List.drop_zero] at hvs1) | fail)
     go_roundw
     case rel=>exact ⟨k+1,by omega,by rw [HD1.out 0]; exact hvs1,by rw [HS1.out,HD1.out 0]; try rfl,trivial⟩
     case measure=>rw [HMU.out,CR hvs1]; simp
   | false=>
    by_cases h35:c.toNat = 35
    ·have HS1:Hid (skT false (l.drop n) = (k+1)+skT true r):=hid (by rw [HS.out,Dp,hb,if_neg (by simp),if_pos h35]; omega)
     have q1:((c.toNat:Int) == 32) = false:=by simp; omega
     have q2:((c.toNat:Int) == 10) = false:=by simp; omega
     have q3:((c.toNat:Int) == 13) = false:=by simp; omega
     have q4:((c.toNat:Int) == 9) = false:=by simp; omega
     have q5:((c.toNat:Int) == 35) = true:=by simp; omega
     have hIX:=hid (EE u0 (c::r) g w HU.out (by simp))
     have hc10:c.toNat≠10:=by omega
     have hil:=Eo (c::r);rw [FK,show (c.toNat != 10) = true by simpa using hc10] at hil;clear hb hr h35 hc10
     rcases hil with ⟨i1,i2⟩ | ⟨i,i1,i2,i3⟩
     ·rw [i1] at hIX;have HE:Hid (skT false (l.drop n) = (l.drop n).length):=hid (by rw [HS1.out]; simp at i2; omega);clear i1 i2
      go_wp2_with (first | ((with_reducible refine Cy ?_); refine Al _ (by rfl) _ 27 5 rfl Tryd.underlying27 _ _ _ rfl HU.out ?_) | ((with_reducible refine Ay ?_); refine Ad _ (by rfl) _ _ 27 5 rfl Tryd.underlying27 Ab _ _ _ rfl HU.out _ (0:Int) rfl (by decide) hne0 ?_; intro ad1 hc1; try simp only [Int.toNat_zero,List.getElem_cons_zero] at hc1) | (go_at_call 46; refine (Calls.mono hIX.out ?_); rintro e w' ⟨rfl,rfl⟩) | fail)
      go_roundw
      case rel=>exact ⟨(l.drop n).length,Nat.le_refl _,by rw [List.drop_length]; exact View.nilOf,by rw [HE.out,List.drop_length]; simp [Gm],trivial⟩
      case measure=>rw [HMU.out]; simp [G9]
     ·rw [i1] at hIX
      have HE:Hid (skT false (l.drop n) = k+(i+1)+skT false ((l.drop n).drop (k+(i+1)))):=hid (by
       rw [HS1.out,HD1.out i];rw [List.drop_succ_cons] at i3
       omega)
      have hI2:(i:Int)+1≤((c::r).length:Int):=by omega
      simp only [List.length_cons] at i2;clear i1 i3
      go_wp2_with (first
       | ((with_reducible refine Cy ?_); refine Al _ (by rfl) _ 27 5 rfl Tryd.underlying27 _ _ _ rfl HU.out ?_)
       | ((with_reducible refine Ay ?_); refine Ad _ (by rfl) _ _ 27 5 rfl Tryd.underlying27 Ab _ _ _ rfl HU.out _ (0:Int) rfl (by decide) hne0 ?_; intro ad1 hc1; try simp only [Int.toNat_zero,List.getElem_cons_zero] at hc1)
       | (go_at_call 46; refine (Calls.mono hIX.out ?_); rintro e w' ⟨rfl,rfl⟩)
       | ((with_reducible refine Db ?_); refine AD _ (by rfl) _ _ 27 5 rfl Tryd.underlying27 Ab _ _ _ rfl HU.out _ ((i:Int)+1) rfl (by omega) hI2 ?_; intro vs1 hvs1)
       | fail)
      have hvs2:View w g _ (r.drop i):=hvs1.eq (show (c::r).drop _ = r.drop i by rw [show ((i:Int)+1).toNat = i+1 by omega]; try rfl)
      go_roundw
      case rel=>exact ⟨k+(i+1),by omega,by rw [HD1.out i]; exact hvs2,HE.out,trivial⟩
      case measure=>rw [HMU.out,CR hvs2]; simp <;> omega
    ·have HE:Hid (l.drop (n+skT false (l.drop n)) = c::r):=hid (by rw [HS.out,Dp,hb,if_neg (by simp),if_neg h35,Nat.add_zero,←List.drop_drop,hr])
     have hcs:((c.toNat:Int) == 32) = false∧((c.toNat:Int) == 10) = false∧((c.toNat:Int) == 13) = false∧((c.toNat:Int) == 9) = false:=by
      unfold Ew at hb; simp at hb ⊢; omega
     obtain ⟨q1,q2,q3,q4⟩:=hcs
     have q5:((c.toNat:Int) == 35) = false:=by simp; omega
     clear hb hr h35
     go_wp2_with (first | ((with_reducible refine Cy ?_); refine Al _ (by rfl) _ 27 5 rfl Tryd.underlying27 _ _ _ rfl HU.out ?_) | ((with_reducible refine Ay ?_); refine Ad _ (by rfl) _ _ 27 5 rfl Tryd.underlying27 Ab _ _ _ rfl HU.out _ (0:Int) rfl (by decide) hne0 ?_; intro ad1 hc1; try simp only [Int.toNat_zero,List.getElem_cons_zero] at hc1) | fail)
     go_ret
     rw [HE.out];exact ⟨_,rfl,HU.out,rfl⟩
set_option maxRecDepth 100000 in
theorem F1 (v:Value) (l:List UInt8) (g:Nat) (w:World) (hv:View w g v l) :
  Calls Tryd.prog 34 #[v] w fun e w'=>e = .returned (.string ⟨l.toArray⟩)∧w = w':=by
 go_enter Tryd.func34,Tryd.ntmps34
 go_wp2_with (first | ((with_reducible refine Dc ?_); refine Bf _ (by rfl) _ 27 9 5 rfl Tryd.underlying27 Tryd.underlying5 Tryd.underlying9 _ _ _ rfl hv ?_) | fail)
 go_ret
 exact ⟨rfl,rfl⟩
theorem Hl (l:List UInt8) (k:Nat) (hk:k < l.length) (h:AV l = k+AV (l.drop k)):(Bj l[k] = true→AV l = (k+1)+AV (l.drop (k+1)))∧(Bj l[k] = false→AV l = k):=by
 rw [List.drop_eq_getElem_cons hk] at h;unfold AV at h ⊢;rw [AK] at h;refine ⟨fun hp=>?_,fun hp=>?_⟩
 ·rw [hp,if_pos rfl] at h; omega
 ·rw [hp,if_neg (by simp)] at h; omega
set_option maxRecDepth 100000 in
set_option maxHeartbeats 2000000 in
theorem BQ (l:List UInt8) (w:World) (hm:l.length≤100000000) :
  Calls Tryd.prog 28 #[.string ⟨l.toArray⟩] w fun e w'=>e = .returned (.int .i64 (AV l:Int))∧w = w':=by
 have hsz:=Am l
 go_enter Tryd.func28,Tryd.ntmps28
 go_wp2_with fail
 go_loop [3] (fun i=>∃ k:Nat,k≤l.length∧i = .int .i64 (k:Int)∧AV l = k+AV (l.drop k)) (fun i=>l.length - (intOf i).toNat)
 case atStart=>exact ⟨0,Nat.zero_le _,rfl,by simp⟩
 case round=>
  obtain ⟨k,hk,rfl,hn⟩:=hrel
  by_cases hlt:k < l.length
  ·have HA:=hid (Hl l k hlt hn);have hge:((⟨l.toArray⟩:ByteArray)[k]'(by rw [hsz]; exact hlt)) = l[k]:=rfl;have HN:=hid hn;clear hn;generalize hc:l[k] = c at *;have bc:=Ao c
   cases hp:Bj c with
   | true=>
    have HF:=hid (HA.out.1 hp);unfold Bj at hp;simp at hp
    have d1:decide ((c.toNat:Int) < 32) = false:=by simp; omega
    have d2:((c.toNat:Int) == 34) = false:=by simp; omega
    have d3:((c.toNat:Int) == 39) = false:=by simp; omega
    have d4:((c.toNat:Int) == 92) = false:=by simp; omega
    have d5:decide ((127:Int)≤(c.toNat:Int)) = false:=by simp; omega
    clear hp
    go_wp2_with fail
    go_round
    case rel=>exact ⟨k+1,by omega,by go_num,HF.out⟩
    case measure=>simp [intOf]; omega
   | false=>
    have HF:=hid (HA.out.2 hp)
    have hcs:decide ((c.toNat:Int) < 32) = true∨decide ((c.toNat:Int) < 32) = false∧(((c.toNat:Int) == 34) = true∨((c.toNat:Int) == 34) = false∧(((c.toNat:Int) == 39) = true∨((c.toNat:Int) == 39) = false∧(((c.toNat:Int) == 92) = true∨((c.toNat:Int) == 92) = false∧decide ((127:Int)≤(c.toNat:Int)) = true))):=by
     unfold Bj at hp; simp at hp ⊢; omega
    clear hp
    rcases hcs with q1 | ⟨q1,q2 | ⟨q2,q3 | ⟨q3,q4 | ⟨q4,q5⟩⟩⟩⟩
    all_goals
     go_wp2_with fail
     go_ret
     exact ⟨by rw [HF.out]; try rfl,rfl⟩
  ·have HF:Hid (AV l = k):=hid (by rw [hn,List.drop_of_length_le (by omega)]; try rfl)
   have hkl:k = l.length:=by omega
   clear hn
   go_wp2_with fail
   go_ret
   exact ⟨by rw [HF.out,hkl]; try rfl,rfl⟩
set_option maxRecDepth 100000 in
theorem CO (v:Value) (l:List UInt8) (g:Nat) (w:World) (hv:View w g v l) (hm:l.length≤100000000) :
  Calls Tryd.prog 20 #[v] w fun e w'=>e = .returned (.int .i64 (AV l:Int))∧w = w':=by
 have HV:=hid hv;clear hv
 go_enter Tryd.func20,Tryd.ntmps20
 go_wp2_with (first | (go_at_call 34; refine (F1 _ _ _ _ HV.out).mono ?_; rintro e w' ⟨rfl,rfl⟩) | (go_at_call 28; refine (BQ l _ hm).mono ?_; rintro e w' ⟨rfl,rfl⟩) | fail)
 go_ret
 exact ⟨rfl,rfl⟩
set_option maxRecDepth 100000 in
theorem EG (f:ByteArray) (v:Value) (w:World) :
  Calls Tryd.prog 36 #[.string f,v] w fun e w'=>(∃ x,e = .returned (.iface 86 x))∧Below w.heap.size w w':=by
 go_enter Tryd.func36,Tryd.ntmps36
 go_wp2
 go_ret
 exact ⟨⟨_,rfl⟩,(Below.refl _ _).alloc (Nat.le_refl _) _⟩
set_option maxRecDepth 100000 in
theorem Ah (d v:Value) (f:ByteArray) (w:World) (hf:f.size≤100000) :
  Calls Tryd.prog 22 #[d,.string f,v] w fun e w'=>(∃ x,e = .returned (.iface 86 x))∧Below w.heap.size w w':=by
 have h14:¬ 9223372036854775807 < 14+f.size:=by omega
 clear hf
 go_enter Tryd.func22,Tryd.ntmps22
 go_wp2_with (first | (go_at_call 36; refine (EG _ _ _).mono ?_; rintro e w' ⟨⟨x,rfl⟩,hb⟩) | fail)
 go_ret
 exact ⟨⟨_,rfl⟩,hb⟩
end
section
def RowAt (w:World) (p:Nat) (cs:List Value):Prop:=∀ j u,cs[j]? = some u→w.cell? ⟨p,j,none⟩ = some u∧w.frozen? ⟨p,j,none⟩ = false
theorem RowAt.kept {w w':World} {p:Nat} {cs:List Value} (h:RowAt w p cs) (hb:w'.heap[p]? = w.heap[p]?):RowAt w' p cs:=fun j u hu=>by
 rw [World.cell?_of_block (w:=w) (a:=⟨p,j,none⟩) hb,World.frozen?_of_block (w:=w) (a:=⟨p,j,none⟩) hb];exact h j u hu
theorem RowAt.set {w:World} {p:Nat} {cs:List Value} (h:RowAt w p cs) (k:Nat) (hk:k < cs.length) (v:Value):RowAt (w.setCell ⟨p,k,none⟩ v) p (cs.set k v):=fun j u hu=>by
 rw [World.frozen?_setCell]
 by_cases hj:j = k
 ·subst hj;rw [List.getElem?_set_self hk] at hu
  injection hu with hu
  subst hu;obtain ⟨hc,hf⟩:=h j cs[j] (List.getElem?_eq_getElem hk);exact ⟨World.cell?_setCell_same w _ _ hc,hf⟩
 ·rw [List.getElem?_set_ne (Ne.symm hj)] at hu;obtain ⟨hc,hf⟩:=h j u hu;exact ⟨by rw [World.cell?_setCell_other w _ _ _ (by intro e; injection e with _ e; exact hj e.symm)]; exact hc,hf⟩
theorem RowAt.lt {w:World} {p:Nat} {c:Value} {cs:List Value} (h:RowAt w p (c::cs)):p < w.heap.size:=World.block_lt_of_cell? w ⟨p,0,none⟩ (h 0 c rfl).1
structure Glob (w:World):Prop where
 tabs:Lib.Utf8Tabs 1 2 w
 eof:ErrVar 0 w
 syn:ErrVar 3 w
 rng:ErrVar 4 w
theorem BM {w w':World} {a:Addr} {v:Value} (h:w.cell? a = some v) (hb:∀ k,k < w.heap.size→k < 9→w'.heap[k]? = w.heap[k]?) (ha:a.block < 9):w'.cell? a = some v:=
 (World.cell?_of_block (hb a.block (World.block_lt_of_cell? w a h) ha)).trans h
theorem Glob.kept {w w':World} (h:Glob w) (hb:∀ k,k < w.heap.size→k < 9→w'.heap[k]? = w.heap[k]?):Glob w' where
 tabs:=⟨fun c hc=>BM (h.tabs.1 c hc) hb (show 1 < 9 by decide),fun i hi=>⟨BM (h.tabs.2 i hi).1 hb (show 2 < 9 by decide),BM (h.tabs.2 i hi).2 hb (show 2 < 9 by decide)⟩⟩
 eof:=by obtain ⟨t,x,hc⟩:=h.eof; exact ⟨t,x,BM hc hb (by decide)⟩
 syn:=by obtain ⟨t,x,hc⟩:=h.syn; exact ⟨t,x,BM hc hb (by decide)⟩
 rng:=by obtain ⟨t,x,hc⟩:=h.rng; exact ⟨t,x,BM hc hb (by decide)⟩
theorem Glob.below {w w':World} (h:Glob w) (hb:Below w.heap.size w w'):Glob w':=h.kept fun k hk _=>hb.block k hk
def attV (t:TT):Nat:=t.att+if t.sep then 128 else 0
def EK (vr:Value) (t:TT):List Value:=[.int .u8 (t.kind:Int),.int .u8 (attV t:Int),.int .u8 (t.na:Int),.int .i64 (t.pos:Int),vr,.string ⟨t.str.toArray⟩]
def Gi (vr ve vst vo vi:Value) (s:DT):List Value:=
 .int .u8 (if s.peeked then 1 else 0)::(EK vr s.tok++[ve,vst,vo,vi])
def IsErr (v:Value) (b:Bool):Prop:=if b then ∃ t x,v = .iface t x else v = .nilIface
structure DW (B p g:Nat) (bs:List UInt8) (vr ve vst vo vi:Value) (s:DT) (w:World):Prop where
 row:RowAt w p (Gi vr ve vst vo vi s)
 raw:View w g vr s.tok.raw
 err:IsErr ve s.bad
 own:OwnB w B 5 vst s.st
 orig:View w g vo bs
 inn:View w g vi (bs.drop s.k)
 le:s.k≤bs.length
 glob:Glob w
 b9:9≤B
 bp:B≤p
 gp:g≠p
 gl:g < w.heap.size
 gs:vst.ownBlock≠some g
 ps:vst.ownBlock≠some p
variable {B p g:Nat} {bs:List UInt8} {vr ve vst vo vi:Value} {s:DT} {w:World}
theorem DW.lt (h:DW B p g bs vr ve vst vo vi s w):p < w.heap.size:=h.row.lt
theorem DW.base (h:DW B p g bs vr ve vst vo vi s w):B≤w.heap.size:=by have:=h.lt; have:=h.bp; omega
theorem DW.kept {w':World} (h:DW B p g bs vr ve vst vo vi s w) (hs:w.heap.size≤w'.heap.size) (hp:w'.heap[p]? = w.heap[p]?) (hg:w'.heap[g]? = w.heap[g]?) (hst:OwnB w' B 5 vst s.st) (h9:∀ k,k < w.heap.size→k < 9→w'.heap[k]? = w.heap[k]?):DW B p g bs vr ve vst vo vi s w':=
 { h with row:=h.row.kept hp,raw:=h.raw.kept hg,own:=hst,orig:=h.orig.kept hg,inn:=h.inn.kept hg,glob:=h.glob.kept h9,gl:=by have:=h.gl; omega }
theorem DW.below {w':World} (h:DW B p g bs vr ve vst vo vi s w) (hb:Below w.heap.size w w'):DW B p g bs vr ve vst vo vi s w':=
 h.kept hb.size (hb.block p h.lt) (hb.block g h.gl) (World.ownsRow.kept h.own (row:=none) ⟨hb.os,hb.tape,hb.output,hb.size,fun k hk _=>hb.block k hk⟩ (by cases vst.ownBlock <;> simp)) (fun k hk _=>hb.block k hk)
theorem Fp {w0 w w':World} {p:Option Nat} (hb:Below w0.heap.size w0 w) (h:w.grownBy w' p):w0.grownBy w' p:=
 ⟨h.os.trans hb.os,h.tape.trans hb.tape,h.output.trans hb.output,Nat.le_trans hb.size h.size,fun k hk hne=>(h.block k (by have:=hb.size; omega) hne).trans (hb.block k hk)⟩
theorem DW.alloc (h:DW B p g bs vr ve vst vo vi s w) (o:Obj):DW B p g bs vr ve vst vo vi s (w.alloc o):=h.below ((Below.refl _ _).alloc (Nat.le_refl _) _)
theorem DW.drew (h:DW B p g bs vr ve vst vo vi s w):DW B p g bs vr ve vst vo vi s w.drew:=h.below (Below.refl _ _).drew
theorem DW.drewN (h:DW B p g bs vr ve vst vo vi s w) (n:Nat):DW B p g bs vr ve vst vo vi s (w.drewN n):=h.below ⟨rfl,rfl,rfl,Nat.le_refl _,fun _ _=>rfl⟩
theorem BU (w:World) (p o:Nat) (v:Value):w.grownBy (w.setCell ⟨p,o,none⟩ v) (some p):=
 ⟨rfl,rfl,rfl,by simp [World.setCell],fun k _ hne=>Below.heap_setCell w ⟨p,o,none⟩ v k (fun e=>hne (by simp [e]))⟩
theorem B3 {w w':World} (h:Below w.heap.size w w') (p:Option Nat):w.grownBy w' p:=⟨h.os,h.tape,h.output,h.size,fun k hk _=>h.block k hk⟩
theorem DW.reset {w':World} {vr' ve' vi':Value} {s':DT} (h:DW B p g bs vr ve vst vo vi s w) (hg:w.grownBy w' (some p)) (hrow:RowAt w' p (Gi vr' ve' vst vo vi' s'))
  (hraw:View w g vr' s'.tok.raw) (herr:IsErr ve' s'.bad) (hst:s'.st = s.st) (hinn:View w g vi' (bs.drop s'.k)) (hle:s'.k≤bs.length):DW B p g bs vr' ve' vst vo vi' s' w':=by
 have hgb:w'.heap[g]? = w.heap[g]?:=hg.block g h.gl (fun e=>h.gp (by injection e))
 exact {
  row:=hrow
  raw:=hraw.kept hgb
  err:=herr
  own:=by
   rw [hst];exact World.ownsRow.kept h.own hg (.inr h.ps)
  orig:=h.orig.kept hgb
  inn:=hinn.kept hgb
  le:=hle
  glob:=h.glob.kept fun k hk h9=>hg.block k hk (fun e=>by injection e with e; have:=h.b9; have:=h.bp; omega)
  b9:=h.b9
  bp:=h.bp
  gp:=h.gp
  gl:=by have:=hg.size; have:=h.gl; omega
  gs:=h.gs
  ps:=h.ps }
theorem DW.setIn (h:DW B p g bs vr ve vst vo vi s w) {k:Nat} {vi':Value} (hv:View w g vi' (bs.drop k)) (hk:k≤bs.length):DW B p g bs vr ve vst vo vi' { s with k:=k } (w.setCell ⟨p,10,none⟩ vi'):=
 h.reset (BU w p 10 vi') (by have:=h.row.set 10 (by simp [Gi,EK]) vi'; exact this) h.raw h.err rfl hv hk
structure DStep (p:Nat) (vst:Value) (w:World) (vst':Value) (w':World):Prop where
 os:w'.os = w.os
 tape:w'.tape = w.tape
 output:w'.output = w.output
 size:w.heap.size≤w'.heap.size
 block:∀ k,k < w.heap.size→k≠p→vst.ownBlock≠some k→w'.heap[k]? = w.heap[k]?
 lies:∀ k,vst'.ownBlock = some k→vst.ownBlock = some k∨w.heap.size≤k
theorem DStep.of_grown {w':World} (h:w.grownBy w' (some p)):DStep p vst w vst w':=
 ⟨h.os,h.tape,h.output,h.size,fun k hk h1 _=>h.block k hk (fun e=>h1 (by injection e)),fun _ h=>.inl h⟩
theorem DStep.of_below {w':World} (h:Below w.heap.size w w'):DStep p vst w vst w':=DStep.of_grown (B3 h _)
theorem DStep.refl (p:Nat) (vst:Value) (w:World):DStep p vst w vst w:=DStep.of_below (Below.refl _ _)
theorem DStep.trans {v1 v2 v3:Value} {w w1 w2:World} (h:DStep p v1 w v2 w1) (k:DStep p v2 w1 v3 w2):DStep p v1 w v3 w2:=by
 have hs:=h.size;refine ⟨k.os.trans h.os,k.tape.trans h.tape,k.output.trans h.output,Nat.le_trans h.size k.size,fun j hj h1 h2=>?_,fun j hj=>?_⟩
 ·rw [k.block j (by omega) h1 (fun e=>by rcases h.lies j e with e | e; exact h2 e; omega)];exact h.block j hj h1 h2
 ·rcases k.lies j hj with e | e
  ·exact h.lies j e
  ·exact .inr (by omega)
theorem DStep.below {v1 v2:Value} {w':World} (h:DStep p v1 w v2 w') (hp:B≤p) (hB:B≤w.heap.size) (hv:∀ k,v1.ownBlock = some k→B≤k):Below B w w':=
 ⟨h.os,h.tape,h.output,h.size,fun k hk=>h.block k (by omega) (by omega) (fun e=>by have:=hv k e; omega)⟩
end
section
def AR (c:Nat):Nat:=if c < 128 then 1 else if c < 2048 then 2 else if c < 65536 then 3 else 4
theorem Et (c:Nat):(AA c).length = AR c:=by
 unfold AA AR
 repeat' split
 all_goals rfl
def E8 (l:List UInt8):Nat:=match An l with
 | some (_,n)=>n
 | none=>0
def Ba (c:Nat):Option (Nat × Nat):=if 192≤c∧c < 224 then some (1,c % 32) else if 224≤c∧c < 240 then some (2,c % 16) else if 240≤c∧c < 248 then some (3,c % 8) else none
def ok2 (n v:Nat):Bool:=decide (v≤1114111) && !(decide (55296≤v) && decide (v < 57344)) && AR v == n
def AZ:List UInt8→Nat
 | []=>0
 | c::l=>if c.toNat < 128 then 1 else match Ba c.toNat with
  | none=>0
  | some (n,first)=>match Ae n first l with
   | none=>0
   | some v=>if ok2 (n+1) v then n+1 else 0
theorem CC:∀ (n acc:Nat) (l:List UInt8) (v:Nat),Ae n acc l = some v→acc * 64 ^ n≤v∧v < (acc+1) * 64 ^ n
 | 0,acc,l,v,h=>by simp [Ae] at h; subst h; simp
 | n+1,acc,[],v,h=>by simp [Ae] at h
 | n+1,acc,c::l,v,h=>by
  unfold Ae at h
  split at h
  ·have ih:=CC n _ l v h
   have hp:64 ^ (n+1) = 64 * 64 ^ n:=by rw [Nat.pow_succ,Nat.mul_comm]
   have h1:c.toNat % 64 < 64:=Nat.mod_lt _ (by decide);refine ⟨?_,?_⟩
   ·rw [hp,←Nat.mul_assoc]; exact Nat.le_trans (Nat.mul_le_mul_right _ (Nat.le_add_right _ _)) ih.1
   ·rw [hp,←Nat.mul_assoc]; exact Nat.lt_of_lt_of_le ih.2 (Nat.mul_le_mul_right _ (by omega))
  ·cases h
theorem ok_same (n least v:Nat) (h:AR v = n↔least≤v):ok2 n v = Co least v:=by
 unfold ok2 Co;rw [Bool.eq_iff_iff];simp only [Bool.and_eq_true,beq_iff_eq,h,decide_eq_true_eq]
 constructor
 ·rintro ⟨⟨a,b⟩,c⟩; exact ⟨⟨c,a⟩,b⟩
 ·rintro ⟨⟨a,b⟩,c⟩; exact ⟨⟨b,c⟩,a⟩
theorem Ec (c:UInt8) (l:List UInt8):AZ (c::l) = if c.toNat < 128 then 1 else match Ba c.toNat with
  | none=>0
  | some (n,first)=>match Ae n first l with
   | none=>0
   | some v=>if ok2 (n+1) v then n+1 else 0:=rfl
theorem Hb (l:List UInt8):E8 l = AZ l:=by
 cases l with
 | nil=>rfl
 | cons c l=>
  rw [Ec];unfold E8;rw [Af]
  by_cases h1:c.toNat < 128
  ·rw [if_pos h1,if_pos h1]
  ·rw [if_neg h1,if_neg h1];have key:∀ (n least first:Nat),Ar c.toNat = some (n,least,first)→Ba c.toNat = some (n,first)→(∀ v,first * 64 ^ n≤v→v < (first+1) * 64 ^ n→(AR v = n+1↔least≤v))→
     (match (match Ar c.toNat with
      | none=>none
      | some (n,least,first)=>match Ae n first l with
       | none=>none
       | some v=>if Co least v then some (v,n+1) else none:Option (Nat × Nat)) with
      | some (_,n)=>n
      | none=>0) = (match Ba c.toNat with
      | none=>0
      | some (n,first)=>match Ae n first l with
       | none=>0
       | some v=>if ok2 (n+1) v then n+1 else 0):=by
    intro n least first e1 e2 hv
    rw [e1,e2];simp only
    rcases ht:Ae n first l with _ | v
    ·rfl
    ·have hb:=CC _ _ _ _ ht;have:=ok_same (n+1) least v (hv v hb.1 hb.2);simp only [this]
     cases Co least v <;> rfl
   by_cases h2:194≤c.toNat∧c.toNat < 224
   ·refine key 1 128 (c.toNat % 32) (by unfold Ar; rw [if_pos h2]) (by unfold Ba; rw [if_pos (by omega)]) fun v hl hu=>?_;unfold AR
    repeat' split
    all_goals omega
   ·by_cases h3:224≤c.toNat∧c.toNat < 240
    ·refine key 2 2048 (c.toNat % 16) (by unfold Ar; rw [if_neg h2,if_pos h3]) (by unfold Ba; rw [if_neg (by omega),if_pos h3]) fun v hl hu=>?_;unfold AR
     repeat' split
     all_goals omega
    ·by_cases h4:240≤c.toNat∧c.toNat < 245
     ·refine key 3 65536 (c.toNat % 8) (by unfold Ar; rw [if_neg h2,if_neg h3,if_pos h4]) (by unfold Ba; rw [if_neg (by omega),if_neg h3,if_pos (by omega)]) fun v hl hu=>?_;unfold AR
      repeat' split
      all_goals omega
     ·have e1:Ar c.toNat = none:=by unfold Ar; rw [if_neg h2,if_neg h3,if_neg h4]
      rw [e1];simp only
      by_cases h5:192≤c.toNat∧c.toNat < 224
      ·have e2:Ba c.toNat = some (1,c.toNat % 32):=by unfold Ba; rw [if_pos h5]
       rw [e2];simp only
       rcases ht:Ae 1 (c.toNat % 32) l with _ | v
       ·rfl
       ·have hb:=CC _ _ _ _ ht
        have:ok2 (1+1) v = false:=by
         unfold ok2 AR;rw [if_pos (by omega)];simp
        simp only [this];rfl
      ·by_cases h6:240≤c.toNat∧c.toNat < 248
       ·have e2:Ba c.toNat = some (3,c.toNat % 8):=by unfold Ba; rw [if_neg h5,if_neg h3,if_pos h6]
        rw [e2];simp only
        rcases ht:Ae 3 (c.toNat % 8) l with _ | v
        ·rfl
        ·have hb:=CC _ _ _ _ ht
         have:ok2 (3+1) v = false:=by
          unfold ok2;rw [show decide (v≤1114111) = false from decide_eq_false (by omega)]
          try rfl
         simp only [this];rfl
       ·have e2:Ba c.toNat = none:=by unfold Ba; rw [if_neg h5,if_neg h3,if_neg h6]
        rw [e2]
end
section
theorem shr_all:((List.range 256).all fun c=>(((c:Int) / 64 != 2)) == !(c / 64 == 2)) = true:=by kernel_rfl
theorem F5 (c:UInt8):((c.toNat:Int) / 64 != 2) = !BW c:=by
 have h:=List.all_eq_true.1 shr_all c.toNat (List.mem_range.2 (by have:=Ao c; omega))
 simpa [BW] using h
theorem Az {B:Nat} {a w:World} (h:Below B a w) (n:Nat):Below B a (w.drewN n):=h.trans ⟨rfl,rfl,rfl,Nat.le_refl _,fun _ _=>rfl⟩
theorem HW (c:UInt8):bits .and .i64 (c.toNat:Int) 31 = (c.toNat:Int) % 32:=by have:=Ao c; exact bits_mask .i64 63 (by decide) A2 5 (by decide) c.toNat (by omega) (by omega)
theorem H5 (c:UInt8):bits .and .i64 (c.toNat:Int) 15 = (c.toNat:Int) % 16:=by have:=Ao c; exact bits_mask .i64 63 (by decide) A2 4 (by decide) c.toNat (by omega) (by omega)
theorem b_and7i (c:UInt8):bits .and .i64 (c.toNat:Int) 7 = (c.toNat:Int) % 8:=by have:=Ao c; exact bits_mask .i64 63 (by decide) A2 3 (by decide) c.toNat (by omega) (by omega)
set_option maxRecDepth 100000 in
set_option maxHeartbeats 2000000 in
theorem C4 (v:Value) (c:UInt8) (l:List UInt8) (g:Nat) (w:World) (hv:View w g v (c::l)) (hm:(c::l).length≤1000000) :
  Calls Tryd.prog 16 #[v] w fun e w'=>e = .returned (.int .i64 (AZ (c::l)))∧Below w.heap.size w w':=by
 have hb0:=Below.refl w.heap.size w;have hv0:=hv;obtain ⟨ao,cap,rfl,hlc,hcm,hn0,off,hao,hcell⟩:=hv;obtain rfl:=hao (by simp);have c0:w.cell? ⟨g,off,none⟩ = some (.int .u8 (c.toNat:Int)):=hcell 0 (by simp);have bdc:=Ao c;have HCE:=hid hcell;clear hcell hao hn0;simp only [List.length_cons] at hm hlc;have HZ:=hid (Ec c l)
 by_cases h1:(c.toNat:Int) < 128
 ·have HF:Hid (AZ (c::l) = 1):=hid (by rw [HZ.out,if_pos (by omega)])
  go_enter Tryd.func16,Tryd.ntmps16
  go_wp2_with fail
  go_quiet (fail)
  go_wp2_with fail
  go_ret
  exact ⟨by rw [HF.out]; try rfl,Az hb0 _⟩
 ·have a1:=HW c;have a2:=H5 c;have a3:=b_and7i c;have hz:=HZ.out;rw [if_neg (by omega)] at hz
  by_cases h2:(c.toNat:Int) < 192
  ·have HF:Hid (AZ (c::l) = 0):=hid (by rw [hz,show Ba c.toNat = none by unfold Ba; rw [if_neg (by omega),if_neg (by omega),if_neg (by omega)]]);clear hz
   go_enter Tryd.func16,Tryd.ntmps16
   go_wp2_with fail
   go_quiet (fail)
   go_wp2_with fail
   go_ret
   exact ⟨by rw [HF.out]; try rfl,Az hb0 _⟩
  ·by_cases h3:(c.toNat:Int) < 248
   ·by_cases h4:(c.toNat:Int) < 224
    ·have hh:Ba c.toNat = some (1,c.toNat % 32):=by unfold Ba; rw [if_pos (by omega)]
     rw [hh] at hz;simp only at hz;have HZ2:=hid hz;clear hz hh HZ
     by_cases hfit:1≤l.length
     ·go_enter Tryd.func16,Tryd.ntmps16
      go_wp2_with fail
      go_quiet (fail)
      go_wp2_with fail
      go_loop [4,5] (fun cv i=>∃ m acc:Nat,i = .int .i64 (m+1)∧cv = .int .i64 acc∧m≤1∧Ae 1 (c.toNat % 32) l = Ae (1 - m) acc (l.drop m)∧acc < 8388608∧(m≤2→acc < 131072)∧(m≤1→acc < 2048)∧(m = 0→acc < 32)) (fun _ i=>5 - (intOf i).toNat)
      case atStart=>exact ⟨0,c.toNat % 32,rfl,by first | rfl | simp,Nat.zero_le _,rfl,by omega,fun _=>by omega,fun _=>by omega,fun _=>by omega⟩
      case round=>
       obtain ⟨m,acc,rfl,rfl,hm2,htk,b0,b1,b2,b3⟩:=hrel;have HT:=hid htk;clear htk
       by_cases hmn:m < 1
       ·have hlt:m < l.length:=by omega
        have hci:w.cell? ⟨g,off+(m+1),none⟩ = some (.int .u8 (l[m].toNat:Int)):=HCE.out (m+1) (by simp; omega);have hcb:=F5 l[m];have ha63:=Fv l[m];have bdb:=Ao l[m]
        have hst:Ae (1 - m) acc (l.drop m) = if BW l[m] then Ae (1 - (m+1)) (acc * 64+l[m].toNat % 64) (l.drop (m+1)) else none:=by
         rw [CU hlt,show 1 - m = (1 - (m+1))+1 by omega,Ae]
        have HS:=hid hst;clear hst
        rcases hcv:BW l[m] with _ | _
        ·have hst:=HS.out;rw [hcv] at hst;have HF:Hid (AZ (c::l) = 0):=hid (by rw [HZ2.out,HT.out,hst]; try rfl);rw [hcv] at hcb;clear hst
         go_wp2_with fail
         go_ret
         exact ⟨by rw [HF.out]; try rfl,Az hb0 _⟩
        ·have hst:=HS.out;rw [hcv] at hst;have HS2:=hid hst;rw [hcv] at hcb;clear hst
         have hor:bits .or .i64 ((acc:Int) * 64) ((l[m].toNat:Int) % 64) = ((acc * 64+l[m].toNat % 64:Nat):Int):=by
          rw [Fk (by omega) (by omega) (by omega) (by omega) (by omega)]; omega
         go_wp2_with fail
         go_round
         case rel=>exact ⟨m+1,acc * 64+l[m].toNat % 64,by go_num,by first | rfl | (rw [hor]),by omega,by rw [HT.out,HS2.out]; try rfl,by omega,fun _=>by omega,fun _=>by omega,fun _=>by omega⟩
         case measure=>simp [intOf]; omega
       ·obtain rfl:m = 1:=by omega
        have hch:=HZ2.out;rw [HT.out] at hch
        replace hch:AZ (c::l) = if ok2 2 acc then 2 else 0:=hch
        have hok:ok2 2 acc = (decide (acc≤1114111) && !(decide (55296≤acc) && decide (acc < 57344)) && AR acc == 2):=rfl;rw [hok] at hch;have HK:=hid hch;have hel:=Et acc;clear hch hok b1 b2 b3 b0 a1 a2 a3 hmn hm2
        by_cases g2:(1114111:Int) < acc
        ·have HF:Hid (AZ (c::l) = 0):=hid (by rw [HK.out,show decide (acc≤1114111) = false from decide_eq_false (by omega)]; try rfl)
         go_wp2_with fail
         go_ret
         exact ⟨by rw [HF.out]; try rfl,Az hb0 _⟩
        ·by_cases gs:(55296:Int)≤acc∧(acc:Int) < 57344
         ·have HF:Hid (AZ (c::l) = 0):=hid (by rw [HK.out,show decide (55296≤acc) = true from decide_eq_true (by omega),show decide (acc < 57344) = true from decide_eq_true (by omega)]; simp);have g3':decide ((55296:Int)≤acc) = true:=decide_eq_true gs.1;have g4':decide ((acc:Int) < 57344) = true:=decide_eq_true gs.2;clear gs
          go_wp2_with fail
          go_ret
          exact ⟨by rw [HF.out]; try rfl,Az hb0 _⟩
         ·have HK2:Hid (AZ (c::l) = if AR acc == 2 then 2 else 0):=hid (by
           rw [HK.out,show decide (acc≤1114111) = true from decide_eq_true (by omega),show (decide (55296≤acc) && decide (acc < 57344)) = false by rw [Bool.eq_false_iff]; simp; omega]
           simp)
          have hg34:decide ((55296:Int)≤acc) = false∨(decide ((55296:Int)≤acc) = true∧decide ((acc:Int) < 57344) = false):=by
           by_cases g3:(55296:Int)≤acc
           ·exact .inr ⟨decide_eq_true g3,decide_eq_false (by omega)⟩
           ·exact .inl (decide_eq_false g3)
          clear gs HK
          rcases hg34 with g3' | ⟨g3',g4'⟩
          all_goals
           rcases he:(AR acc == 2) with _ | _
           all_goals
            have hk2:=HK2.out;rw [he] at hk2;have HF:=hid hk2;clear hk2
            have hlen:(((AA acc).length:Int) != 2) = !(AR acc == 2):=by rw [hel]; rw [Bool.eq_iff_iff]; simp; omega
            rw [he] at hlen;clear he hel
            go_wp2_with (go_at_call 32; refine (Cr acc _ (by omega)).mono ?_; rintro e w1 ⟨⟨ve,rfl,hve⟩,hb1⟩; obtain ⟨ae,ce,rfl⟩:=hve.slice)
            go_ret
            exact ⟨by rw [HF.out]; try rfl,Aa (Az hb0 _) hb1⟩
     ·have HF:Hid (AZ (c::l) = 0):=hid (by
       rw [HZ2.out]
       rcases ht:Ae 1 (c.toNat % 32) l with _ | v
       ·rfl
       ·have:=BO _ _ _ _ ht
        omega)
      go_enter Tryd.func16,Tryd.ntmps16
      go_wp2_with fail
      go_quiet (fail)
      go_wp2_with fail
      go_ret
      exact ⟨by rw [HF.out]; try rfl,Az hb0 _⟩
    ·by_cases h5:(c.toNat:Int) < 240
     ·have hh:Ba c.toNat = some (2,c.toNat % 16):=by unfold Ba; rw [if_neg (by omega),if_pos (by omega)]
      rw [hh] at hz;simp only at hz;have HZ2:=hid hz;clear hz hh HZ
      by_cases hfit:2≤l.length
      ·go_enter Tryd.func16,Tryd.ntmps16
       go_wp2_with fail
       go_quiet (fail)
       go_wp2_with fail
       go_loop [4,5] (fun cv i=>∃ m acc:Nat,i = .int .i64 (m+1)∧cv = .int .i64 acc∧m≤2∧Ae 2 (c.toNat % 16) l = Ae (2 - m) acc (l.drop m)∧acc < 8388608∧(m≤2→acc < 131072)∧(m≤1→acc < 2048)∧(m = 0→acc < 32)) (fun _ i=>5 - (intOf i).toNat)
       case atStart=>exact ⟨0,c.toNat % 16,rfl,by first | rfl | simp,Nat.zero_le _,rfl,by omega,fun _=>by omega,fun _=>by omega,fun _=>by omega⟩
       case round=>
        obtain ⟨m,acc,rfl,rfl,hm2,htk,b0,b1,b2,b3⟩:=hrel;have HT:=hid htk;clear htk
        by_cases hmn:m < 2
        ·have hlt:m < l.length:=by omega
         have hci:w.cell? ⟨g,off+(m+1),none⟩ = some (.int .u8 (l[m].toNat:Int)):=HCE.out (m+1) (by simp; omega);have hcb:=F5 l[m];have ha63:=Fv l[m];have bdb:=Ao l[m]
         have hst:Ae (2 - m) acc (l.drop m) = if BW l[m] then Ae (2 - (m+1)) (acc * 64+l[m].toNat % 64) (l.drop (m+1)) else none:=by
          rw [CU hlt,show 2 - m = (2 - (m+1))+1 by omega,Ae]
         have HS:=hid hst;clear hst
         rcases hcv:BW l[m] with _ | _
         ·have hst:=HS.out;rw [hcv] at hst;have HF:Hid (AZ (c::l) = 0):=hid (by rw [HZ2.out,HT.out,hst]; try rfl);rw [hcv] at hcb;clear hst
          go_wp2_with fail
          go_ret
          exact ⟨by rw [HF.out]; try rfl,Az hb0 _⟩
         ·have hst:=HS.out;rw [hcv] at hst;have HS2:=hid hst;rw [hcv] at hcb;clear hst
          have hor:bits .or .i64 ((acc:Int) * 64) ((l[m].toNat:Int) % 64) = ((acc * 64+l[m].toNat % 64:Nat):Int):=by
           rw [Fk (by omega) (by omega) (by omega) (by omega) (by omega)]; omega
          go_wp2_with fail
          go_round
          case rel=>exact ⟨m+1,acc * 64+l[m].toNat % 64,by go_num,by first | rfl | (rw [hor]),by omega,by rw [HT.out,HS2.out]; try rfl,by omega,fun _=>by omega,fun _=>by omega,fun _=>by omega⟩
          case measure=>simp [intOf]; omega
        ·obtain rfl:m = 2:=by omega
         have hch:=HZ2.out;rw [HT.out] at hch
         replace hch:AZ (c::l) = if ok2 3 acc then 3 else 0:=hch
         have hok:ok2 3 acc = (decide (acc≤1114111) && !(decide (55296≤acc) && decide (acc < 57344)) && AR acc == 3):=rfl;rw [hok] at hch;have HK:=hid hch;have hel:=Et acc;clear hch hok b1 b2 b3 b0 a1 a2 a3 hmn hm2
         by_cases g2:(1114111:Int) < acc
         ·have HF:Hid (AZ (c::l) = 0):=hid (by rw [HK.out,show decide (acc≤1114111) = false from decide_eq_false (by omega)]; try rfl)
          go_wp2_with fail
          go_ret
          exact ⟨by rw [HF.out]; try rfl,Az hb0 _⟩
         ·by_cases gs:(55296:Int)≤acc∧(acc:Int) < 57344
          ·have HF:Hid (AZ (c::l) = 0):=hid (by rw [HK.out,show decide (55296≤acc) = true from decide_eq_true (by omega),show decide (acc < 57344) = true from decide_eq_true (by omega)]; simp);have g3':decide ((55296:Int)≤acc) = true:=decide_eq_true gs.1;have g4':decide ((acc:Int) < 57344) = true:=decide_eq_true gs.2;clear gs
           go_wp2_with fail
           go_ret
           exact ⟨by rw [HF.out]; try rfl,Az hb0 _⟩
          ·have HK2:Hid (AZ (c::l) = if AR acc == 3 then 3 else 0):=hid (by
            rw [HK.out,show decide (acc≤1114111) = true from decide_eq_true (by omega),show (decide (55296≤acc) && decide (acc < 57344)) = false by rw [Bool.eq_false_iff]; simp; omega]
            simp)
           have hg34:decide ((55296:Int)≤acc) = false∨(decide ((55296:Int)≤acc) = true∧decide ((acc:Int) < 57344) = false):=by
            by_cases g3:(55296:Int)≤acc
            ·exact .inr ⟨decide_eq_true g3,decide_eq_false (by omega)⟩
            ·exact .inl (decide_eq_false g3)
           clear gs HK
           rcases hg34 with g3' | ⟨g3',g4'⟩
           all_goals
            rcases he:(AR acc == 3) with _ | _
            all_goals
             have hk2:=HK2.out;rw [he] at hk2;have HF:=hid hk2;clear hk2
             have hlen:(((AA acc).length:Int) != 3) = !(AR acc == 3):=by rw [hel]; rw [Bool.eq_iff_iff]; simp; omega
             rw [he] at hlen;clear he hel
             go_wp2_with (go_at_call 32; refine (Cr acc _ (by omega)).mono ?_; rintro e w1 ⟨⟨ve,rfl,hve⟩,hb1⟩; obtain ⟨ae,ce,rfl⟩:=hve.slice)
             go_ret
             exact ⟨by rw [HF.out]; try rfl,Aa (Az hb0 _) hb1⟩
      ·have HF:Hid (AZ (c::l) = 0):=hid (by
        rw [HZ2.out]
        rcases ht:Ae 2 (c.toNat % 16) l with _ | v
        ·rfl
        ·have:=BO _ _ _ _ ht
         omega)
       go_enter Tryd.func16,Tryd.ntmps16
       go_wp2_with fail
       go_quiet (fail)
       go_wp2_with fail
       go_ret
       exact ⟨by rw [HF.out]; try rfl,Az hb0 _⟩
     ·have hh:Ba c.toNat = some (3,c.toNat % 8):=by unfold Ba; rw [if_neg (by omega),if_neg (by omega),if_pos (by omega)]
      rw [hh] at hz;simp only at hz;have HZ2:=hid hz;clear hz hh HZ
      by_cases hfit:3≤l.length
      ·go_enter Tryd.func16,Tryd.ntmps16
       go_wp2_with fail
       go_quiet (fail)
       go_wp2_with fail
       go_loop [4,5] (fun cv i=>∃ m acc:Nat,i = .int .i64 (m+1)∧cv = .int .i64 acc∧m≤3∧Ae 3 (c.toNat % 8) l = Ae (3 - m) acc (l.drop m)∧acc < 8388608∧(m≤2→acc < 131072)∧(m≤1→acc < 2048)∧(m = 0→acc < 32)) (fun _ i=>5 - (intOf i).toNat)
       case atStart=>exact ⟨0,c.toNat % 8,rfl,by first | rfl | simp,Nat.zero_le _,rfl,by omega,fun _=>by omega,fun _=>by omega,fun _=>by omega⟩
       case round=>
        obtain ⟨m,acc,rfl,rfl,hm2,htk,b0,b1,b2,b3⟩:=hrel;have HT:=hid htk;clear htk
        by_cases hmn:m < 3
        ·have hlt:m < l.length:=by omega
         have hci:w.cell? ⟨g,off+(m+1),none⟩ = some (.int .u8 (l[m].toNat:Int)):=HCE.out (m+1) (by simp; omega);have hcb:=F5 l[m];have ha63:=Fv l[m];have bdb:=Ao l[m]
         have hst:Ae (3 - m) acc (l.drop m) = if BW l[m] then Ae (3 - (m+1)) (acc * 64+l[m].toNat % 64) (l.drop (m+1)) else none:=by
          rw [CU hlt,show 3 - m = (3 - (m+1))+1 by omega,Ae]
         have HS:=hid hst;clear hst
         rcases hcv:BW l[m] with _ | _
         ·have hst:=HS.out;rw [hcv] at hst;have HF:Hid (AZ (c::l) = 0):=hid (by rw [HZ2.out,HT.out,hst]; try rfl);rw [hcv] at hcb;clear hst
          go_wp2_with fail
          go_ret
          exact ⟨by rw [HF.out]; try rfl,Az hb0 _⟩
         ·have hst:=HS.out;rw [hcv] at hst;have HS2:=hid hst;rw [hcv] at hcb;clear hst
          have hor:bits .or .i64 ((acc:Int) * 64) ((l[m].toNat:Int) % 64) = ((acc * 64+l[m].toNat % 64:Nat):Int):=by
           rw [Fk (by omega) (by omega) (by omega) (by omega) (by omega)]; omega
          go_wp2_with fail
          go_round
          case rel=>exact ⟨m+1,acc * 64+l[m].toNat % 64,by go_num,by first | rfl | (rw [hor]),by omega,by rw [HT.out,HS2.out]; try rfl,by omega,fun _=>by omega,fun _=>by omega,fun _=>by omega⟩
          case measure=>simp [intOf]; omega
        ·obtain rfl:m = 3:=by omega
         have hch:=HZ2.out;rw [HT.out] at hch
         replace hch:AZ (c::l) = if ok2 4 acc then 4 else 0:=hch
         have hok:ok2 4 acc = (decide (acc≤1114111) && !(decide (55296≤acc) && decide (acc < 57344)) && AR acc == 4):=rfl;rw [hok] at hch;have HK:=hid hch;have hel:=Et acc;clear hch hok b1 b2 b3 b0 a1 a2 a3 hmn hm2
         by_cases g2:(1114111:Int) < acc
         ·have HF:Hid (AZ (c::l) = 0):=hid (by rw [HK.out,show decide (acc≤1114111) = false from decide_eq_false (by omega)]; try rfl)
          go_wp2_with fail
          go_ret
          exact ⟨by rw [HF.out]; try rfl,Az hb0 _⟩
         ·by_cases gs:(55296:Int)≤acc∧(acc:Int) < 57344
          ·have HF:Hid (AZ (c::l) = 0):=hid (by rw [HK.out,show decide (55296≤acc) = true from decide_eq_true (by omega),show decide (acc < 57344) = true from decide_eq_true (by omega)]; simp);have g3':decide ((55296:Int)≤acc) = true:=decide_eq_true gs.1;have g4':decide ((acc:Int) < 57344) = true:=decide_eq_true gs.2;clear gs
           go_wp2_with fail
           go_ret
           exact ⟨by rw [HF.out]; try rfl,Az hb0 _⟩
          ·have HK2:Hid (AZ (c::l) = if AR acc == 4 then 4 else 0):=hid (by
            rw [HK.out,show decide (acc≤1114111) = true from decide_eq_true (by omega),show (decide (55296≤acc) && decide (acc < 57344)) = false by rw [Bool.eq_false_iff]; simp; omega]
            simp)
           have hg34:decide ((55296:Int)≤acc) = false∨(decide ((55296:Int)≤acc) = true∧decide ((acc:Int) < 57344) = false):=by
            by_cases g3:(55296:Int)≤acc
            ·exact .inr ⟨decide_eq_true g3,decide_eq_false (by omega)⟩
            ·exact .inl (decide_eq_false g3)
           clear gs HK
           rcases hg34 with g3' | ⟨g3',g4'⟩
           all_goals
            rcases he:(AR acc == 4) with _ | _
            all_goals
             have hk2:=HK2.out;rw [he] at hk2;have HF:=hid hk2;clear hk2
             have hlen:(((AA acc).length:Int) != 4) = !(AR acc == 4):=by rw [hel]; rw [Bool.eq_iff_iff]; simp; omega
             rw [he] at hlen;clear he hel
             go_wp2_with (go_at_call 32; refine (Cr acc _ (by omega)).mono ?_; rintro e w1 ⟨⟨ve,rfl,hve⟩,hb1⟩; obtain ⟨ae,ce,rfl⟩:=hve.slice)
             go_ret
             exact ⟨by rw [HF.out]; try rfl,Aa (Az hb0 _) hb1⟩
      ·have HF:Hid (AZ (c::l) = 0):=hid (by
        rw [HZ2.out]
        rcases ht:Ae 3 (c.toNat % 8) l with _ | v
        ·rfl
        ·have:=BO _ _ _ _ ht
         omega)
       go_enter Tryd.func16,Tryd.ntmps16
       go_wp2_with fail
       go_quiet (fail)
       go_wp2_with fail
       go_ret
       exact ⟨by rw [HF.out]; try rfl,Az hb0 _⟩
   ·have HF:Hid (AZ (c::l) = 0):=hid (by rw [hz,show Ba c.toNat = none by unfold Ba; rw [if_neg (by omega),if_neg (by omega),if_neg (by omega)]]);clear hz
    go_enter Tryd.func16,Tryd.ntmps16
    go_wp2_with fail
    go_quiet (fail)
    go_wp2_with fail
    go_ret
    exact ⟨by rw [HF.out]; try rfl,Az hb0 _⟩
end
end Go.Proofs.YtgdnpnipahegaaaDoor
