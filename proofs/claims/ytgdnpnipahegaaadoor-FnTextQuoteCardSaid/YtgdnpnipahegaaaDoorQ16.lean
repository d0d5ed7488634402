/-
 Any bytes that the text form's writer quotes are read back by its reader. Plain functions.
-/
import Derived.Test.YtgdnpnipahegaaaDoorQ2
import Derived.Test.YtgdnpnipahegaaaDoorShelfQ
import Derived.Test.YtgdnpnipahegaaaDoorDDecode
import Derived.Test.YtgdnpnipahegaaaDoorQ5
import Derived.Deep.RegionHeld3
import Derived.Test.YtgdnpnipahegaaaDoorQ0
import Derived.Deep.AppendLies
import Derived.Deep.DrawnRows
import Derived.Lib.AppendStr
namespace Go.Proofs.YtgdnpnipahegaaaDoor
section
def hxT (d:Nat):UInt8:=UInt8.ofNat (if d < 10 then 48+d else 87+d)
theorem hxT_all:∀ d:Fin 16,AH (hxT d.val).toNat = d.val∧Aq (hxT d.val) = true:=by decide +kernel
theorem Fl {d:Nat} (h:d < 16):AH (hxT d).toNat = d∧Aq (hxT d) = true:=hxT_all ⟨d,h⟩
def Cc (c:Nat):List UInt8:=if c = 34∨c = 92 then [92,UInt8.ofNat c] else if c = 10 then [92,110] else if c = 13 then [92,114] else if c = 9 then [92,116] else [92,120,hxT (c / 16),hxT (c % 16)]
def BP (c:Nat):Bool:=decide (c < 32) || (c == 34 || (c == 92 || c == 127))
def E7 (c:Nat):List UInt8:=[92,117,48,48,hxT (c / 16),hxT (c % 16)]
def Dw:Nat→List UInt8→List UInt8
 | 0,_=>[]
 | _+1,[]=>[]
 | f+1,c::l=>match An (c::l) with
  | none=>Cc c.toNat++Dw f l
  | some (v,n)=>if BP v then Cc v++Dw f ((c::l).drop n) else if 128≤v∧v≤159 then E7 v++Dw f ((c::l).drop n)
   else (c::l).take n++Dw f ((c::l).drop n)
def Av (l:List UInt8):List UInt8:=Dw l.length l
theorem Dv:∀ (f g:Nat) (l:List UInt8),l.length≤f→l.length≤g→Dw f l = Dw g l
 | 0,0,_,_,_=>rfl
 | 0,g+1,l,h,_=>by
  have:l = []:=List.eq_nil_of_length_eq_zero (by omega);subst this; rfl
 | f+1,0,l,_,h=>by
  have:l = []:=List.eq_nil_of_length_eq_zero (by omega);subst this; rfl
 | f+1,g+1,[],_,_=>rfl
 | f+1,g+1,c::l,hf,hg=>by
  simp only [List.length_cons] at hf hg;unfold Dw
  rcases hu:An (c::l) with _ | ⟨v,n⟩
  ·simp only;rw [Dv f g l (by omega) (by omega)]
  ·have hn:=At hu;simp only;rw [Dv f g ((c::l).drop n) (by simp; omega) (by simp; omega)]
theorem FL:Av [] = []:=rfl
theorem EP {c:UInt8} {l:List UInt8} (h:An (c::l) = none):Av (c::l) = Cc c.toNat++Av l:=by
 unfold Av;rw [List.length_cons,Dw,h]
theorem Dt {c:UInt8} {l:List UInt8} {v n:Nat} (h:An (c::l) = some (v,n)):Av (c::l) = if BP v then Cc v++Av ((c::l).drop n) else if 128≤v∧v≤159 then E7 v++Av ((c::l).drop n)
   else (c::l).take n++Av ((c::l).drop n):=by
 have hn:=At h
 conv=>lhs; unfold Av
 rw [List.length_cons,Dw,h];simp only;have e:Dw l.length ((c::l).drop n) = Av ((c::l).drop n):=Dv _ _ _ (by simp; omega) (Nat.le_refl _);rw [e]
theorem C8:∀ (f:Nat) (l:List UInt8),(Dw f l).length≤6 * l.length
 | 0,_=>Nat.zero_le _
 | f+1,[]=>Nat.zero_le _
 | f+1,c::l=>by
  have he:∀ v,(Cc v).length≤4:=fun v=>by
   unfold Cc
   repeat' split
   all_goals first | exact (by decide:2≤4) | exact (by decide:4≤4)
  unfold Dw
  rcases hu:An (c::l) with _ | ⟨v,n⟩
  ·have:=C8 f l;have:=he c.toNat;simp only [List.length_append,List.length_cons]; omega
  ·have hn:=At hu;have:=C8 f ((c::l).drop n);have:=he v;have hq:(E7 v).length = 6:=rfl;simp only [List.length_drop,List.length_cons] at *
   split
   ·simp only [List.length_append]; omega
   ·split
    ·simp only [List.length_append]; omega
    ·simp only [List.length_append,List.length_take,List.length_cons]; omega
theorem Du:∀ (l:List UInt8),Av l = l.take (AV l)++Av (l.drop (AV l))
 | []=>rfl
 | c::l=>by
  unfold AV;rw [AK]
  cases hc:Bj c with
  | false=>simp
  | true=>
   rw [if_pos rfl];unfold Bj at hc;simp at hc
   have hu:An (c::l) = some (c.toNat,1):=by rw [Af,if_pos (by omega)]
   have hs:BP c.toNat = false:=by unfold BP; simp; omega
   rw [Dt hu,hs,if_neg (by simp),if_neg (by omega),List.drop_succ_cons,List.drop_zero,List.take_succ_cons,List.take_zero,Du l];unfold AV;simp
theorem FJ {q:Nat} (hq:q = 34∨q = 39) {e:List UInt8} {l out b:List UInt8} (h:CZ (92::e++l) = some (b,e.length+1)):Ak q (92::e++l) out = Ak q l (out++b):=by
 have hu:An (92::e++l) = some (92,1):=by rw [List.cons_append,Af]; try rfl
 rw [BJ hu,if_neg (by omega),if_neg (by omega),if_pos rfl,h];simp
theorem hex_two {a b:Nat} (ha:a < 16) (hb:b < 16) (l:List UInt8):Cm (hxT a::hxT b::l) = some ([UInt8.ofNat (a * 16+b)],4):=by
 obtain ⟨a1,a2⟩:=Fl ha;obtain ⟨b1,b2⟩:=Fl hb
 have hr:Au Aq (hxT a::hxT b::l) = Au Aq l+2:=by rw [AK,a2,if_pos rfl,AK,b2,if_pos rfl]
 unfold Cm;rw [hr,if_neg (by omega),show min 2 (Au Aq l+2) = 2 by omega]
 have hx:As 0 ((hxT a::hxT b::l).take 2) = some (a * 16+b):=by
  show As 0 [hxT a,hxT b] = _
  unfold As;rw [a1,if_pos ha];unfold As;rw [b1,if_pos hb];simp [As]
 rw [hx]
theorem escT_q {c:Nat} (hc:c < 256) (hs:BP c = true∨128≤c) (l:List UInt8):CZ (Cc c++l) = some ([UInt8.ofNat c],(Cc c).length):=by
 unfold Cc
 split
 ·rename_i h
  rw [List.cons_append,List.cons_append,List.nil_append,AF]
  rcases h with rfl | rfl <;> rfl
 ·split
  ·rename_i h; subst h; rfl
  ·split
   ·rename_i h; subst h; rfl
   ·split
    ·rename_i h; subst h; rfl
    ·rw [List.cons_append,List.cons_append,AF,if_neg (by decide),if_neg (by decide),if_pos (by decide)];rw [List.cons_append,List.cons_append,List.nil_append,hex_two (by omega) (Nat.mod_lt _ (by decide)),show c / 16 * 16+c % 16 = c by omega]
     try rfl
theorem escT_u {c:Nat} (hc:128≤c∧c≤159) (l:List UInt8):CZ (E7 c++l) = some (AA c,(E7 c).length):=by
 obtain ⟨a1,a2⟩:=Fl (d:=c / 16) (by omega);obtain ⟨b1,b2⟩:=Fl (d:=c % 16) (by omega);unfold E7;rw [List.cons_append,List.cons_append,AF,if_neg (by decide),if_neg (by decide),if_neg (by decide),if_pos (by decide)];unfold BI;rw [if_neg (by simp)]
 have hx:As 0 (((92::117::([48,48,hxT (c / 16),hxT (c % 16)]++l)).drop 2).take 4) = some c:=by
  show As 0 [48,48,hxT (c / 16),hxT (c % 16)] = _
  have h0:AH (48:UInt8).toNat = 0:=by decide
  unfold As;rw [h0,if_pos (by decide)];unfold As;rw [h0,if_pos (by decide)];unfold As;rw [a1,if_pos (by omega)];unfold As;rw [b1,if_pos (by omega)];unfold As
  congr 1
  omega
 rw [hx];simp only;rw [if_neg (by omega),if_pos (by unfold Bp; simp; omega)]
 try rfl
theorem Ea {q:Nat} (hq:q = 34):∀ (f:Nat) (l r out:List UInt8),l.length≤f→Ak q (Av l++r) out = Ak q r (out++l)
 | f,[],r,out,_=>by rw [FL]; simp
 | 0,c::l,r,out,h=>by simp at h
 | f+1,c::l,r,out,h=>by
  subst hq;simp only [List.length_cons] at h
  have hex:∀ (v:Nat) (l2:List UInt8),v < 256→BP v = true∨128≤v→Ak 34 (Cc v++l2) out = Ak 34 l2 (out++[UInt8.ofNat v]):=by
   intro v l2 h1 h2;have he:=escT_q h1 h2 l2
   obtain ⟨e,hq⟩:∃ e,Cc v = 92::e:=by
    unfold Cc
    repeat' split
    all_goals exact ⟨_,rfl⟩
   rw [hq] at he ⊢;exact FJ (.inl rfl) he
  rcases hu:An (c::l) with _ | ⟨v,n⟩
  ·rw [EP hu,List.append_assoc,hex _ _ c.toNat_lt (.inr (by
    rcases Nat.lt_or_ge c.toNat 128 with h1 | h1
    ·rw [Af,if_pos h1] at hu; cases hu
    ·exact h1)),Ea rfl f l r _ (by omega)]
   simp
  ·have hn:=At hu;have ih:=Ea (q:=34) rfl f ((c::l).drop n) r;rw [Dt hu]
   by_cases hs:BP v = true
   ·rw [if_pos hs,List.append_assoc,hex v _ (by unfold BP at hs; simp at hs; omega) (.inl hs),ih _ (by simp; omega)]
    have hv:v < 128:=by unfold BP at hs; simp at hs; omega
    have hc:c.toNat < 128:=by
     rcases Nat.lt_or_ge c.toNat 128 with h1 | h1
     ·exact h1
     ·exfalso
      rw [Af,if_neg (by omega)] at hu
      rcases hh:Ar c.toNat with _ | ⟨k,least,first⟩
      ·rw [hh] at hu; cases hu
      ·rw [hh] at hu;simp only at hu;have hk:=BA hh
       rcases ht:Ae k first l with _ | v'
       ·rw [ht] at hu; cases hu
       ·rw [ht] at hu;simp only at hu
        split at hu
        ·rename_i ho
         unfold Co at ho;simp at ho;cases hu;omega
        ·cases hu
    rw [Af,if_pos hc] at hu;cases hu;simp
   ·rw [if_neg hs]
    by_cases h2:128≤v∧v≤159
    ·rw [if_pos h2,List.append_assoc];have he:=escT_u h2 (Av ((c::l).drop n)++r);have e1:E7 v++(Av ((c::l).drop n)++r) = 92::(E7 v).tail++(Av ((c::l).drop n)++r):=rfl;rw [e1] at he ⊢;rw [FJ (.inl rfl) he,ih _ (by simp; omega),GV hu,List.append_assoc,List.take_append_drop]
    ·rw [if_neg h2,List.append_assoc];have hu2:=Ct (r:=Av ((c::l).drop n)++r) hu;unfold BP at hs;simp at hs;rw [BJ hu2,if_neg (by omega),if_neg (by omega),if_neg (by omega)]
     have hl:((c::l).take n).length = n:=by rw [List.length_take]; omega
     have e1:((c::l).take n++(Av ((c::l).drop n)++r)).drop n = Av ((c::l).drop n)++r:=List.drop_left' hl;have e2:((c::l).take n++(Av ((c::l).drop n)++r)).take n = (c::l).take n:=List.take_left' hl;rw [e1,e2,ih _ (by simp; omega),List.append_assoc,List.take_append_drop]
theorem F7 (s:List UInt8):Ak 34 (Av s++[34]) [] = some (s,0):=by
 rw [Ea rfl s.length s [34] [] (Nat.le_refl _),BJ (c:=34) (n:=1) rfl];simp
end
section
open Go.ChangeShapes Go.WideShapes Go.ChangeAt Go.RowKit
theorem get!_mk (l:List UInt8) (i:Nat):(ByteArray.mk l.toArray).get! i = l.getD i 0:=by
 show l.toArray[i]! = _
 simp [List.getD_eq_getElem?_getD];rfl
theorem Fs (l:List UInt8) (h:l≠[]):Lib.decodeGo ⟨l.toArray⟩ = chr l:=by
 unfold Lib.decodeGo;have hs:=Am l;have hl:l.length≠0:=fun e=>h (List.eq_nil_of_length_eq_zero e);rw [if_neg (by rw [hs]; exact hl),Go.Lib.decode_at,←Hy l h,hs];simp only [get!_mk,Nat.zero_add,Nat.sub_zero];rfl
theorem Gh (l:List UInt8) (w:World) (h:l≠[]) (hT:Lib.Utf8Tabs 1 2 w) :
  Calls Tryd.prog 29 #[.string ⟨l.toArray⟩] w fun e w'=>e = .returned (DD l)∧Below w.heap.size w w':=by
 have:=Tryd.utf8_DecodeRuneInString ⟨l.toArray⟩ w hT;rw [Fs l h] at this;exact this
theorem Cd:∀ c:Fin 256,(c.val = 0∧Lib.bitLen c.val = 0)∨(0 < c.val∧c.val < 16∧1≤Lib.bitLen c.val∧Lib.bitLen c.val≤4)∨(16≤c.val∧5≤Lib.bitLen c.val∧Lib.bitLen c.val≤8):=by decide +kernel
def Cp (u:Nat):List UInt8:=if u < 16 then [hxT u] else [hxT (u / 16),hxT (u % 16)]
theorem GL (w:World):Calls Tryd.prog 66 #[.int .i64 16] w fun e w'=>e = .returned (.bool true)∧w = w':=by
 have h:bits .and .i64 16 15 = 0:=by decide
 go_enter Tryd.func66,Tryd.ntmps66
 go_wp2_with fail
 go_ret
 exact ⟨rfl,rfl⟩
theorem FH (w:World) (hd:w.cell? ⟨8,15,none⟩ = some (.int .u8 4)):Calls Tryd.prog 70 #[.int .u64 16] w fun e w'=>e = .returned (.int .i64 4)∧w = w':=by
 have h:IntKind.u64.wrap (bits .and .u64 16 (IntKind.u64.wrap (-16)) * 285870213051353865) / 288230376151711744 = 15:=by decide
 go_enter Tryd.func70,Tryd.ntmps70
 go_wp2_with fail
 go_ret
 exact ⟨rfl,rfl⟩
theorem GJ (w:World) (hd:w.cell? ⟨8,15,none⟩ = some (.int .u8 4)):Calls Tryd.prog 67 #[.int .u64 16] w fun e w'=>e = .returned (.int .i64 4)∧w = w':=by
 have HD:=hid hd;clear hd
 go_enter Tryd.func67,Tryd.ntmps67
 go_wp2_with (first
  | (go_at_call 70; refine (FH _ HD.out).mono ?_; rintro e w1 ⟨rfl,rfl⟩)
  | fail)
 go_ret
 exact ⟨rfl,rfl⟩
theorem Hw:∀ d:Fin 16,((ByteArray.mk #[48,49,50,51,52,53,54,55,56,57,97,98,99,100,101,102,103,104,105,106,107,108,109,110,111,112,113,114,115,116,117,118,119,120,121,122]).get! d.val).toNat = (hxT d.val).toNat:=by decide +kernel
theorem Fq {d:Nat} (hd:d < 16):∀ h,((ByteArray.mk #[48,49,50,51,52,53,54,55,56,57,97,98,99,100,101,102,103,104,105,106,107,108,109,110,111,112,113,114,115,116,117,118,119,120,121,122])[d]'h).toNat = (hxT d).toNat:=fun h=>by
 have:=Hw ⟨d,hd⟩;rw [←this]
 congr 1
 exact (getElem!_pos (ByteArray.mk #[48,49,50,51,52,53,54,55,56,57,97,98,99,100,101,102,103,104,105,106,107,108,109,110,111,112,113,114,115,116,117,118,119,120,121,122]).data d h).symm
theorem and15u {x:Int} (h0:0≤x) (h1:x < 2147483648):bits .and .u64 x 15 = x % 16:=bits_mask .u64 63 (by decide) (fun n h0 h1=>IntWalk.u64_in n ⟨by omega,by omega⟩) 4 (by decide) x h0 (by omega)
theorem OwnB.below {w w':World} {B:Nat} {e:TypeId} {v:Value} {bs:List UInt8} (h:OwnB w B e v bs) (hb:Below w.heap.size w w'):OwnB w' B e v bs:=
 World.ownsRow.kept h (row:=none) ⟨hb.os,hb.tape,hb.output,hb.size,fun k hk _=>hb.block k hk⟩ (by cases v.ownBlock <;> simp)
theorem FA {w:World} {g o:Nat} {bs:List UInt8} (hm:bs.length≤maxLen) (h:∀ j (hj:j < bs.length),w.cell? ⟨g,o+j,none⟩ = some (.int .u8 (bs[j].toNat:Int))):View w g (.slice (some ⟨g,o,none⟩) bs.length bs.length) bs:=
 ⟨_,_,rfl,Nat.le_refl _,hm,(fun h=>by cases h),o,(fun _=>rfl),h⟩
def FRel (u q:Nat) (w1:World) (x i:Value) (wr:World):Prop:=(x = .int .u64 (u:Int)∧i = .int .i64 65∧wr = w1)∨(16≤u∧x = .int .u64 ((u / 16:Nat):Int)∧i = .int .i64 64∧wr = w1.setCell ⟨q,64,none⟩ (.int .u8 ((hxT (u % 16)).toNat:Int)))
set_option maxRecDepth 100000 in
set_option maxHeartbeats 1000000 in
theorem DB (u:Nat) (hu:u < 256) (B:Nat) (sv:Value) (bs:List UInt8) (w:World) (hown:OwnB w B 5 sv bs) (hB:B≤w.heap.size) (hlen:bs.length≤1000000) (hd:w.cell? ⟨8,15,none⟩ = some (.int .u8 4)) :
  Calls Tryd.prog 58 #[sv,.int .u64 (u:Int),.int .i64 16,.bool false,.bool true] w fun e w'=>∃ v',e = .returned (.tuple #[v',.string ⟨#[]⟩])∧OwnB w' B 5 v' (bs++Cp u)∧Below B w w':=by
 have HO:=hid hown;have HD:=hid hd
 obtain ⟨aoS,cpS,rfl⟩:=(show ∃ ao c,sv = .slice ao bs.length c from by
  rcases hown.2 with ⟨rfl,h0⟩ | ⟨g,cap,cur,rfl,_⟩
  ·exact ⟨none,0,by rw [h0]⟩
  ·exact ⟨_,_,rfl⟩)
 have hdlt:=World.block_lt_of_cell? w _ hd;clear hown hd
 go_enter Tryd.func58,Tryd.ntmps58
 go_upto_region 7 with fail
 have hcells:∀ o,(w.alloc (.cells Tryd.zeroCells110 110)).cell? ⟨w.heap.size,o,none⟩ = Tryd.zeroCells110[o]?:=fun o=>World.cell?_alloc_at _ _ _ o rfl;have hb1:Below w.heap.size w (w.alloc (.cells Tryd.zeroCells110 110)):=(Below.refl _ _).alloc (Nat.le_refl _) _
 have hfz:∀ o,(w.alloc (.cells Tryd.zeroCells110 110)).frozen? ⟨w.heap.size,o,none⟩ = false:=fun o=>by simp [go_sem]
 have hqs:w.heap.size < (w.alloc (.cells Tryd.zeroCells110 110)).heap.size:=by show w.heap.size < (w.heap.push _).size; simp
 have c64:(w.alloc (.cells Tryd.zeroCells110 110)).cell? ⟨w.heap.size,64,none⟩ = some (.int .u8 0):=(hcells 64).trans (by kernel_rfl);have c63:(w.alloc (.cells Tryd.zeroCells110 110)).cell? ⟨w.heap.size,63,none⟩ = some (.int .u8 0):=(hcells 63).trans (by kernel_rfl);have f64:=hfz 64;have f63:=hfz 63;generalize World.alloc w _ = w1 at *;generalize hq:w.heap.size = q at *;have HQ:=hid hq;have HB1:=hid hb1;clear hcells hfz hq hb1;have HD1:Hid (w1.cell? ⟨8,15,none⟩ = some (.int .u8 4)):=hid ((HB1.out.cell (p:=⟨8,15,none⟩) hdlt).trans HD.out)
 go_upto_region 11 with (first
  | (go_at_call 66; refine (GL _).mono ?_; rintro e w' ⟨rfl,rfl⟩)
  | (go_at_call 67; refine (GJ _ HD1.out).mono ?_; rintro e w' ⟨rfl,rfl⟩)
  | fail)
 go_loopw [1,13] (fun x i wr=>FRel u q w1 x i wr) (fun x _ _=>(intOf x).toNat)
 case atStart=>exact .inl ⟨rfl,rfl,rfl⟩
 case round=>
  rcases hrel with ⟨rfl,rfl,rfl⟩ | ⟨hu16,rfl,rfl,rfl⟩
  ·by_cases h16:16≤u
   ·as_aux_lemma=>
     have hA:=and15u (x:=(u:Int)) (by omega) (by omega)
     have hD:∀ h,((ByteArray.mk #[48,49,50,51,52,53,54,55,56,57,97,98,99,100,101,102,103,104,105,106,107,108,109,110,111,112,113,114,115,116,117,118,119,120,121,122])[((u:Int) % 16).toNat]'h).toNat = (hxT (u % 16)).toNat:=by
      have e:((u:Int) % 16).toNat = u % 16:=by omega
      rw [e];exact Fq (d:=u % 16) (Nat.mod_lt _ (by decide))
     have h16I:(16:Int)≤(u:Int):=by omega
     have h0m:(0:Int)≤(u:Int) % 16:=by omega
     have hlt:(u:Int) % 16 < 36:=by omega
     go_wp2_with fail
     exact ⟨.inr ⟨h16,by go_num,rfl,rfl⟩,by simp [intOf]; omega⟩
   ·as_aux_lemma=>
     have hD:∀ h,((ByteArray.mk #[48,49,50,51,52,53,54,55,56,57,97,98,99,100,101,102,103,104,105,106,107,108,109,110,111,112,113,114,115,116,117,118,119,120,121,122])[u]'h).toNat = (hxT u).toNat:=Fq (d:=u) (by omega)
     have h16I:¬ (16:Int)≤(u:Int):=by omega
     have h16N:¬ 16≤u:=by omega
     have h36:(u:Int) < 36:=by omega
     have h36N:u < 36:=by omega
     have HR:Hid (Cp u = [hxT u]):=hid (by unfold Cp; rw [if_pos (by omega)]);have hbx:Below q w (wr.setCell ⟨q,64,none⟩ (.int .u8 ((hxT u).toNat:Int))):=HB1.out.setCell (Nat.le_refl _) _;have hcx:(wr.setCell ⟨q,64,none⟩ (.int .u8 ((hxT u).toNat:Int))).cell? ⟨q,64+0,none⟩ = some (.int .u8 ((hxT u).toNat:Int)):=World.cell?_setCell_same wr _ _ c64
     have HVX:=hid (FA (g:=q) (o:=64) (bs:=[hxT u]) (by simp [maxLen]) fun j hj=>by
      obtain rfl:j = 0:=by simp at hj; omega
      exact hcx)
     have HOX:Hid (OwnB (wr.setCell ⟨q,64,none⟩ (.int .u8 ((hxT u).toNat:Int))) B 5 (.slice aoS bs.length cpS) bs):=hid (HO.out.below (HQ.out ▸ hbx));have HBX:=hid (hbx.mono hB);clear hbx hcx h16
     go_wp2_with (first
      | (refine Bg _ rfl _ _ 27 rfl B 5 Tryd.underlying27 Ab _ bs rfl HOX.out HBX.out (HQ.out ▸ hB) q _ [hxT u] rfl HVX.out (by simp; omega) ?_; intro v2 w2 ho2 hb2 _; have HO2:=hid ho2; have HB2:=hid hb2; clear ho2 hb2)
      | fail)
     go_ret2
     exact ⟨_,rfl,by rw [HR.out]; exact HO2.out,HB2.out⟩
  ·as_aux_lemma=>
    have hD:∀ h,((ByteArray.mk #[48,49,50,51,52,53,54,55,56,57,97,98,99,100,101,102,103,104,105,106,107,108,109,110,111,112,113,114,115,116,117,118,119,120,121,122])[u / 16]'h).toNat = (hxT (u / 16)).toNat:=Fq (d:=u / 16) (by omega)
    have hdi:((u:Int) / 16).toNat = u / 16:=by omega
    have h16I:¬ (16:Int)≤(u:Int) / 16:=by omega
    have h16N:¬ 16≤u / 16:=by omega
    have h36:(u:Int) / 16 < 36:=by omega
    have h36N:u / 16 < 36:=by omega
    have HR:Hid (Cp u = [hxT (u / 16),hxT (u % 16)]):=hid (by unfold Cp; rw [if_neg (by omega)]);have hbx:Below q w ((w1.setCell ⟨q,64,none⟩ (.int .u8 ((hxT (u % 16)).toNat:Int))).setCell ⟨q,63,none⟩ (.int .u8 ((hxT (u / 16)).toNat:Int))):=(HB1.out.setCell (Nat.le_refl _) _).setCell (Nat.le_refl _) _;have hc64:(w1.setCell ⟨q,64,none⟩ (.int .u8 ((hxT (u % 16)).toNat:Int))).cell? ⟨q,64,none⟩ = some (.int .u8 ((hxT (u % 16)).toNat:Int)):=World.cell?_setCell_same w1 _ _ c64;have hc63:(w1.setCell ⟨q,64,none⟩ (.int .u8 ((hxT (u % 16)).toNat:Int))).cell? ⟨q,63,none⟩ = some (.int .u8 0):=(World.cell?_setCell_other w1 _ _ _ (by simp)).trans c63
    have HVX:=hid (FA (w:=(w1.setCell ⟨q,64,none⟩ (.int .u8 ((hxT (u % 16)).toNat:Int))).setCell ⟨q,63,none⟩ (.int .u8 ((hxT (u / 16)).toNat:Int))) (g:=q) (o:=63) (bs:=[hxT (u / 16),hxT (u % 16)]) (by simp [maxLen]) fun j hj=>by
     rcases (show j = 0∨j = 1 from by simp at hj; omega) with rfl | rfl
     ·exact World.cell?_setCell_same _ _ _ hc63
     ·exact (World.cell?_setCell_other _ _ _ _ (by simp)).trans hc64)
    have HOX:Hid (OwnB ((w1.setCell ⟨q,64,none⟩ (.int .u8 ((hxT (u % 16)).toNat:Int))).setCell ⟨q,63,none⟩ (.int .u8 ((hxT (u / 16)).toNat:Int))) B 5 (.slice aoS bs.length cpS) bs):=hid (HO.out.below (HQ.out ▸ hbx));have HBX:=hid (hbx.mono hB);clear hbx hc64 hc63
    go_wp2_with (first
     | (refine Bg _ rfl _ _ 27 rfl B 5 Tryd.underlying27 Ab _ bs rfl HOX.out HBX.out (HQ.out ▸ hB) q _ [hxT (u / 16),hxT (u % 16)] rfl HVX.out (by simp; omega) ?_; intro v2 w2 ho2 hb2 _; have HO2:=hid ho2; have HB2:=hid hb2; clear ho2 hb2)
     | fail)
    go_ret2
    exact ⟨_,rfl,by rw [HR.out]; exact HO2.out,HB2.out⟩
theorem AM (u:Nat) (hu:u < 256) (B:Nat) (sv:Value) (bs:List UInt8) (w:World) (hown:OwnB w B 5 sv bs) (hB:B≤w.heap.size) (hlen:bs.length≤1000000) (hd:w.cell? ⟨8,15,none⟩ = some (.int .u8 4)) :
  Calls Tryd.prog 31 #[sv,.int .u64 (u:Int),.int .i64 16] w fun e w'=>∃ v',e = .returned v'∧OwnB w' B 5 v' (bs++Cp u)∧Below B w w':=by
 have HC:Hid (∀ W,W = w→Calls Tryd.prog 58 #[sv,.int .u64 (u:Int),.int .i64 16,.bool false,.bool true] W fun e w'=>∃ v',e = .returned (.tuple #[v',.string ⟨#[]⟩])∧OwnB w' B 5 v' (bs++Cp u)∧Below B W w'):=hid fun W h=>by subst h; exact DB u hu B sv bs W hown hB hlen hd
 clear hown hd
 have HI:Hid (Calls Tryd.prog 45 #[sv,.int .u64 (u:Int),.int .i64 16] w fun e w'=>∃ v',e = .returned v'∧OwnB w' B 5 v' (bs++Cp u)∧Below B w w'):=hid (by
  go_enter Tryd.func45,Tryd.ntmps45
  go_wp2_with (first
   | (go_at_call 58; refine (Calls.mono (HC.out _ rfl) ?_); rintro e w1 ⟨v1,rfl,ho1,hb1⟩; have HO1:=hid ho1; have HB1:=hid hb1; clear ho1 hb1)
   | fail)
  go_ret
  exact ⟨_,rfl,HO1.out,HB1.out⟩)
 go_enter Tryd.func31,Tryd.ntmps31
 go_wp2_with (first
  | (go_at_call 45; refine (Calls.mono HI.out ?_); rintro e w1 ⟨v1,rfl,ho1,hb1⟩; have HO1:=hid ho1; have HB1:=hid hb1; clear ho1 hb1)
  | fail)
 go_ret
 exact ⟨_,rfl,HO1.out,HB1.out⟩
end
section
open Go.ChangeShapes Go.WideShapes Go.ChangeAt Go.RowKit
section
variable {P:Program} (w:World)
theorem C6 (base:Nat) (t u ty e:TypeId) (i:TypeInfo) (ht:P.underlying t = some (.slice e)) (hu:P.underlying u = some .string) (hi:P.info? e = some i) (hz:i.zero = some (.int .u8 0))
  (hsize:i.size = 1) (hby:i.bytes = 1)
  (v:Value) (n:Nat) (xs:List Value) (hown:w.ownsRow base e 1 v n xs) (s:ByteArray)
  (h63:n+s.size≤maxLen) (hbytes:n+s.size≤140737488355328) (hbase:base≤w.heap.size) :
  ∃ v' w',(Builtin.append_ #[t,u] ty #[v,.string s]).run P w = .ok v' w'∧w'.ownsRow base e 1 v' (n+s.size) (xs++Lib.strCells s)∧w.grownBy w' v.ownBlock∧
   (v'.ownBlock = v.ownBlock∨v'.ownBlock = some w.heap.size):=by
 by_cases hs0:s.size = 0
 ·
  have hn:Lib.strCells s = []:=List.eq_nil_of_length_eq_zero (by rw [Lib.strCells_length]; exact hs0)
  rcases hown.2 with ⟨rfl,rfl⟩ | ⟨g,cap,cur,rfl,hbg,hg,hnc,hcm,hcs,htake⟩
  ·obtain ⟨v',w',h1,h2,h3,h4⟩:=Lib.run_append_own_string (P:=P) w base t u ty e i ht hu hi hz hsize hby _ 0 xs hown s h63 hbytes hbase;have:=h4.2 ⟨rfl,hs0⟩;subst this;exact ⟨_,w',h1,h2,h3,.inl rfl⟩
  ·have hcs':cur.size = cap:=by simpa using hcs
   have hr:=Lib.run_append_room_string (P:=P) w t u ty e i ht hu hi hsize g n cap cur hg s (by omega) (by omega);obtain ⟨v',w',h1,h2,h3,h4⟩:=Lib.run_append_own_string (P:=P) w base t u ty e i ht hu hi hz hsize hby _ n xs hown s h63 hbytes hbase;rw [hr] at h1
   injection h1 with h1 h1'
   subst h1 h1';exact ⟨_,_,hr,h2,h3,.inl rfl⟩
 ·rcases hown.2 with ⟨rfl,rfl⟩ | ⟨g,cap,cur,rfl,hbg,hg,hnc,hcm,hcs,htake⟩
  ·obtain ⟨v',w',h1,h2,h3,h4⟩:=Lib.run_append_own_string (P:=P) w base t u ty e i ht hu hi hz hsize hby _ 0 xs hown s h63 hbytes hbase;have hr:=run_append_nil_string (P:=P) w t u ty e i (.int .u8 0) ht hu hi hz s (by omega) (by unfold maxLen at h63; omega) (by rw [hby]; omega);rw [hr] at h1
   injection h1 with h1 h1'
   subst h1 h1';exact ⟨_,_,hr,h2,h3,.inr rfl⟩
  ·have hcs':cur.size = cap:=by simpa using hcs
   have hxl:xs.length = n:=by simpa using hown.1
   obtain ⟨v',w',h1,h2,h3,h4⟩:=Lib.run_append_own_string (P:=P) w base t u ty e i ht hu hi hz hsize hby _ n xs hown s h63 hbytes hbase
   by_cases hroom:n+s.size≤cap
   ·have hr:=Lib.run_append_room_string (P:=P) w t u ty e i ht hu hi hsize g n cap cur hg s (by omega) (by omega);rw [hr] at h1
    injection h1 with h1 h1'
    subst h1 h1';exact ⟨_,_,hr,h2,h3,.inl rfl⟩
   ·have holds:∀ j u,xs[j]? = some u→w.cell? ((⟨g,0,none⟩:Addr).add j) = some u:=hown.cells (g:=g) rfl;have hr:=Lib.run_append_grow_string (P:=P) w t u ty e i (.int .u8 0) ht hu hi hz ⟨g,0,none⟩ n cap xs (by rw [hsize]; simpa using hxl) holds s (by omega) (by unfold maxLen at h63; omega) (by rw [hby]; exact growslice_fits (by omega) (by omega));rw [hr] at h1
    injection h1 with h1 h1'
    subst h1 h1';exact ⟨_,_,hr,h2,h3,.inr rfl⟩
end
theorem Eb (l:List UInt8):Lib.strCells ⟨l.toArray⟩ = byteCells l:=by simp [Lib.strCells,byteCells]
structure Appd (w:World) (B:Nat) (e:TypeId) (v v':Value) (bs:List UInt8) (w':World):Prop where
 own:OwnB w' B e v' bs
 grown:w.grownBy w' v.ownBlock
 lies:v'.ownBlock = v.ownBlock∨v'.ownBlock = some w.heap.size
section
variable {P:Program} {ops:Array Oper} {rest:List Oper} {o:Oper} {a:Act} {Q:Exit→Act→World→Prop} {K:Act→World→Prop} {E:Prop}
theorem CJ (w:World) (s x:Operand) (t u:TypeId)
  (ho:o.op = .call { callee:=.builtin .append,args:=#[s,x],argTypes:=#[t,u] })
  (B:Nat) (e:TypeId) (ht:P.underlying t = some (.slice e)) (hu:P.underlying u = some .string) (hinfo:(P.info? e).map (fun i=>(i.zero,i.size,i.bytes)) = some (some (.int .u8 0),1,1))
  (v:Value) (bs:List UInt8) (hs:a.eval s = v) (hown:OwnB w B e v bs) (ys:List UInt8) (hx:a.eval x = .string ⟨ys.toArray⟩) (hbase:B≤w.heap.size)
  (hlen:bs.length+ys.length≤140737488355328)
  (h:∀ v' w',Appd w B e v v' (bs++ys) w'→K (a.put o.dst v') w'):o.wp P a w K Q:=by
 obtain ⟨i,hi,hz,hz1,hz2⟩:=info_parts hinfo;have hsz:(⟨ys.toArray⟩:ByteArray).size = ys.length:=Am ys;obtain ⟨v',w',hr,h2,h3,h4⟩:=C6 (P:=P) w B t u o.type e i ht hu hi hz hz1 hz2 v bs.length (byteCells bs) hown ⟨ys.toArray⟩ (by rw [hsz]; unfold maxLen; omega) (by rw [hsz]; omega) hbase;rw [Eb,←AB,hsz] at h2;unfold Oper.wp execOp;simp only [ho,resolve,invoke,builtin,Sem.run_bind,Sem.run_pure,Result.andThen_ok,List.map_toArray,List.map_cons,List.map_nil,hs,hx,hr];refine h v' w' ⟨?_,h3,h4⟩;unfold OwnB;rw [List.length_append];exact h2
theorem Be (w:World) (hgd:o.guard = none) (s x:Operand) (t u:TypeId)
  (ho:o.op = .call { callee:=.builtin .append,args:=#[s,x],argTypes:=#[t,u] })
  (B:Nat) (e:TypeId) (ht:P.underlying t = some (.slice e)) (hu:P.underlying u = some .string) (hinfo:(P.info? e).map (fun i=>(i.zero,i.size,i.bytes)) = some (some (.int .u8 0),1,1))
  (v:Value) (bs:List UInt8) (hs:a.eval s = v) (hown:OwnB w B e v bs) (ys:List UInt8) (hx:a.eval x = .string ⟨ys.toArray⟩) (hbase:B≤w.heap.size)
  (hlen:bs.length+ys.length≤140737488355328)
  (h:∀ v' w',Appd w B e v v' (bs++ys) w'→K (a.put o.dst v') w'):if Region.wanted o (yielded ops a.tmps) = true then o.wp P a w K Q else E:=by
 have hw:Region.wanted o (yielded ops a.tmps) = true:=by simp [Region.wanted,hgd]
 rw [if_pos hw];exact CJ w s x t u ho B e ht hu hinfo v bs hs hown ys hx hbase hlen h
theorem AE (w:World) (hgd:o.guard = none) (s x:Operand) (t u:TypeId)
  (ho:o.op = .call { callee:=.builtin .append,args:=#[s,x],argTypes:=#[t,u] })
  (B:Nat) (e:TypeId) (ht:P.underlying t = some (.slice e)) (hu:P.underlying u = some .string) (hinfo:(P.info? e).map (fun i=>(i.zero,i.size,i.bytes)) = some (some (.int .u8 0),1,1))
  (v:Value) (bs:List UInt8) (hs:a.eval s = v) (hown:OwnB w B e v bs) (ys:List UInt8) (hx:a.eval x = .string ⟨ys.toArray⟩) (hbase:B≤w.heap.size)
  (hlen:bs.length+ys.length≤140737488355328)
  (h:∀ v' w',Appd w B e v v' (bs++ys) w'→wpList P ops Q rest (a.put o.dst v') w'):wpList P ops Q (o::rest) a w:=
 wpList_plain hgd fun _ hK=>CJ w s x t u ho B e ht hu hinfo v bs hs hown ys hx hbase hlen fun v' w' h'=>hK _ _ (h v' w' h')
end
end
end Go.Proofs.YtgdnpnipahegaaaDoor
