/-
 The package's writer of a CT string, walked: it is Av.
-/
import Derived.Test.YtgdnpnipahegaaaDoorQ16
import Derived.Test.YtgdnpnipahegaaaDoorQ13
namespace Go.Proofs.YtgdnpnipahegaaaDoor
open Go.ChangeShapes Go.WideShapes Go.ChangeAt Go.RowKit
section
def Bi:Value→Nat
 | .string s=>s.size
 | _=>0
theorem Es (l:List UInt8) (n:Nat):(⟨l.toArray⟩:ByteArray).extract 0 n = ⟨(l.take n).toArray⟩:=by
 apply ByteArray.ext;simp [ByteArray.data_extract]
theorem Bs (l:List UInt8) (n:Nat):(⟨l.toArray⟩:ByteArray).extract n l.length = ⟨(l.drop n).toArray⟩:=by
 apply ByteArray.ext;simp only [ByteArray.data_extract,List.extract_toArray,List.extract_eq_take_drop];rw [List.take_of_length_le (by simp)]
def ARel (s:List UInt8) (w:World) (o i:Value) (wr:World):Prop:=∃ l bs:List UInt8,i = .string ⟨l.toArray⟩∧OwnB wr w.heap.size 5 o bs∧34::Av s = bs++Av l∧l.length≤s.length∧Below w.heap.size w wr
theorem GI {l:List UInt8} {c n:Nat} (h:An l = some (c,n)) (hc:c < 128):∃ b l2,l = b::l2∧b.toNat = c∧n = 1:=by
 cases l with
 | nil=>cases h
 | cons b l2=>
  by_cases h1:b.toNat < 128
  ·rw [Af,if_pos h1] at h; cases h; exact ⟨b,l2,rfl,rfl,rfl⟩
  ·rw [Af,if_neg h1] at h
   rcases hh:Ar b.toNat with _ | ⟨k,least,first⟩
   ·rw [hh] at h; cases h
   ·rw [hh] at h;simp only at h;have hk:=BA hh
    rcases ht:Ae k first l2 with _ | v'
    ·rw [ht] at h; cases h
    ·rw [ht] at h;simp only at h
     split at h
     ·rename_i hok
      cases h;unfold Co at hok;simp at hok;omega
     ·cases h
theorem u8_oneQ {l:List UInt8} {c n:Nat} (h:An l = some (c,n)) (hn:n = 1):c < 128:=by
 cases l with
 | nil=>cases h
 | cons b l2=>
  by_cases h1:b.toNat < 128
  ·rw [Af,if_pos h1] at h; cases h; exact h1
  ·rw [Af,if_neg h1] at h
   rcases hh:Ar b.toNat with _ | ⟨k,least,first⟩
   ·rw [hh] at h; cases h
   ·rw [hh] at h;simp only at h;have hk:=BA hh
    rcases ht:Ae k first l2 with _ | v'
    ·rw [ht] at h; cases h
    ·rw [ht] at h;simp only at h
     split at h
     ·cases h; omega
     ·cases h
theorem CA {x:Nat} (h:¬ (x = 34∨x = 92)∧x≠10∧x≠13∧x≠9):Cc x = if x < 16 then [92,120]++[48]++Cp x else [92,120]++Cp x:=by
 unfold Cc Cp;rw [if_neg h.1,if_neg h.2.1,if_neg h.2.2.1,if_neg h.2.2.2]
 split
 ·rename_i h16
  have:x / 16 = 0:=by omega
  rw [this,Nat.mod_eq_of_lt h16]
  try rfl
 ·rfl
theorem Utf8Tabs_below {g3 g4:Nat} {w w':World} (h:Lib.Utf8Tabs g3 g4 w) (hb:Below w.heap.size w w'):Lib.Utf8Tabs g3 g4 w':=Go.Proofs.Utf8Tabs_below h hb
set_option maxRecDepth 100000 in
set_option maxHeartbeats 100000000 in
theorem DE (s:List UInt8) (w:World) (hm:s.length≤100000) (hT:Lib.Utf8Tabs 1 2 w) (hd:w.cell? ⟨8,15,none⟩ = some (.int .u8 4)) :
  Calls Tryd.prog 15 #[.slice none 0 0,.string ⟨s.toArray⟩,.bool false] w fun e w'=>∃ v,e = .returned v∧OwnB w' w.heap.size 5 v (34::Av s++[34])∧Below w.heap.size w w':=by
 have HT:=hid hT;have HD:=hid hd;have hsz:=Am s;have hdlt:=World.block_lt_of_cell? w _ hd;clear hT hd;have hb0:=Below.refl w.heap.size w;have HS:=hid (Du s);have hn:=Bb Bj s;have HNS:=hid (show ∀ W,Calls Tryd.prog 28 #[.string ⟨s.toArray⟩] W fun e w'=>e = .returned (.int .i64 (AV s:Int))∧W = w' from fun W=>BQ s W (by omega))
 change AV s≤s.length at hn
 generalize AV s = n at *;have e1:=Es s n;have e2:=Bs s n
 have hnI:(n:Int)≤(s.length:Int):=by omega
 go_enter Tryd.func15,Tryd.ntmps15
 go_upto_region 3 with (first
  | (at_builtin; refine Ac _ rfl _ _ 27 rfl w.heap.size 5 Tryd.underlying27 Ab _ [] rfl (OwnB.nil _ _ _) (w0:=w) hb0 (Nat.le_refl _) 34 (by decide) 1 rfl (by decide) ?_; intro v1 w1 ho1 hb1; have HO1:=hid ho1; have HB1:=hid hb1; clear ho1 hb1)
  | (go_at_call 28; refine (Calls.mono (HNS.out _) ?_); rintro e w' ⟨rfl,rfl⟩)
  | fail)
 go_region_held3 (fun _=>True) (trivial)
  ((refine Be _ (by rfl) _ _ _ _ (by rfl) w.heap.size 5 Tryd.underlying27 Tryd.underlying9 Ab v1 ([]++[UInt8.ofNat (Int.toNat 34)]) (by rfl) HO1.out (s.take n) (by rfl) HB1.out.size (by simp; omega) ?_; intro v2 w2 ha))
 all_goals
  go_wp2_with fail
  go_loopw [0,1] (fun o i wr=>ARel s w o i wr) (fun _ i _=>Bi i)
  case atStart=>
   refine ⟨s.drop n,34::s.take n,rfl,ha.own,by rw [HS.out]; try rfl,by simp,?_⟩;exact (HB1.out.trans ((Below.refl _ _).drew)).grown ha.grown HB1.out.size (fun k hk=>(World.ownsRow.lt HO1.out k hk).1)
  case round=>
   obtain ⟨l,bs,rfl,hown,heq,hl,hb⟩:=hrel;have HEQ:=hid heq
   have hbl:bs.length≤600001:=by
    have h1:=congrArg List.length heq;have h2:=C8 s.length s;simp only [List.length_cons,List.length_append] at h1;unfold Av at h1;omega
   clear heq HS HO1 HB1 ha hn e1 e2 hnI HNS hb0;have hszl:=Am l
   by_cases hl0:l.length = 0
   ·as_aux_lemma=>
     obtain rfl:l = []:=List.eq_nil_of_length_eq_zero hl0
     go_wp2_with (first
      | (at_builtin; refine Ac _ rfl _ _ 27 rfl w.heap.size 5 Tryd.underlying27 Ab _ _ rfl (by assumption) (by assumption) (Nat.le_refl _) _ (by first | decide | omega) 1 rfl (by (try simp only [List.length_append,List.length_cons,List.length_nil]); omega) ?_; intro v1 w1 hown1 hb1)
      | fail)
     go_ret
     exact ⟨_,rfl,hown1.eq (by rw [←List.cons_append,HEQ.out,FL,List.append_nil]; try rfl),hb1⟩
   ·have hne:l≠[]:=fun e=>hl0 (by rw [e]; try rfl)
    have hpos:(0:Int) < (l.length:Int):=by omega
    have HDEC:=hid (Gh l wr hne (Utf8Tabs_below HT.out hb));clear hl0
    rcases hu:An l with _ | ⟨x,n1⟩
    ·as_aux_lemma=>
      have hdv:DD l = .tuple #[.int .i32 65533,.int .i64 1]:=by unfold DD chr; rw [hu]; try rfl
      rw [hdv] at HDEC
      obtain ⟨x,hix,hquo,hc128,hx2⟩:∃ x:Nat,(∀ h,((⟨l.toArray⟩:ByteArray)[0]'h).toNat = x)∧Av l = Cc x++Av l.tail∧128≤x∧x < 256:=by
       cases l with
       | nil=>exact absurd rfl hne
       | cons c r=>
        refine ⟨c.toNat,fun h=>rfl,EP hu,?_,c.toNat_lt⟩
        by_cases h:c.toNat < 128
        ·rw [Af,if_pos h] at hu; cases hu
        ·omega
      have e34:((x:Int) == 34) = false:=by simp; omega
      have e92:((x:Int) == 92) = false:=by simp; omega
      have e10:((x:Int) == 10) = false:=by simp; omega
      have e13:((x:Int) == 13) = false:=by simp; omega
      have e9:((x:Int) == 9) = false:=by simp; omega
      have HQ:Hid (Av l = [92,120]++Cp x++Av l.tail):=hid (by rw [hquo,CA (by omega),if_neg (by omega)]);have hbit:=Cd ⟨x,hx2⟩;simp only at hbit;have HL:=hid (show ∀ W,Calls Tryd.prog 30 #[.int .u32 (x:Int)] W fun e w'=>e = .returned (.int .i64 (Lib.bitLen x:Int))∧W = w' from fun W=>(Tryd.bits_Len32 (x:Int) W (by omega) (by omega)).mono fun e w' ⟨h1,h2⟩=>⟨by simpa using h1,h2.symm⟩);generalize Lib.bitLen x = b at *
      have hb5:5≤b∧b≤8:=by omega
      have hq4:((b:Int) - 1) / 4 = 1:=by omega
      have hb51:(0:Int)≤(b:Int) - 1:=by omega
      have hp2:(ByteArray.mk #[48,48]).extract 2 2 = ⟨([]:List UInt8).toArray⟩:=by rfl
      have ef:(⟨l.toArray⟩:ByteArray).extract 1 l.length = ⟨l.tail.toArray⟩:=by rw [Bs,List.drop_one]
      have h1l:(1:Int)≤(l.length:Int):=by omega
      clear hquo hbit hu
      go_wp2_with (first
       | (go_at_call 29; refine (Calls.mono HDEC.out ?_); rintro e w1 ⟨rfl,hbd⟩; have hown1:=hown.below hbd; have hb1:=hb.trans (hbd.mono hb.size))
       | (at_builtin; refine Ac _ rfl _ _ 27 rfl w.heap.size 5 Tryd.underlying27 Ab _ _ rfl hown1 hb1 (Nat.le_refl _) _ (by first | decide | omega) 1 rfl (by (try simp only [List.length_append,List.length_cons,List.length_nil]); omega) ?_; intro v1 w1 hown1 hb1)
       | (go_at_call 30; refine (Calls.mono (HL.out _) ?_); rintro e w' ⟨rfl,rfl⟩)
       | (at_builtin; refine AE _ rfl _ _ _ _ rfl w.heap.size 5 Tryd.underlying27 Tryd.underlying9 Ab _ _ rfl hown1 [] rfl hb1.size (by (try simp only [List.length_append,List.length_cons,List.length_nil]); omega) ?_; intro v1 w2 ha; obtain ⟨hown1,hb1⟩:_∧_:=⟨ha.own,hb1.grown ha.grown hb1.size (fun k hk=>(World.ownsRow.lt hown1 k hk).1)⟩; clear ha)
       | (go_at_call 31; refine (Calls.mono (AM x hx2 _ _ _ _ hown1 hb1.size (by (try simp only [List.length_append,List.length_cons,List.length_nil]); omega) ((hb1.cell (p:=⟨8,15,none⟩) hdlt).trans HD.out)) ?_); rintro e w2 ⟨v2,rfl,ho2,hb2⟩; obtain ⟨hown1,hb1⟩:_∧_:=⟨ho2,hb1.trans hb2⟩; clear ho2 hb2)
       | fail)
      go_roundw
      case rel=>exact ⟨l.tail,_,rfl,hown1,by rw [HEQ.out,HQ.out]; simp,by simp; omega,hb1⟩
      case measure=>simp only [Bi,Am,List.length_tail]; omega
    ·have hdv:DD l = .tuple #[.int .i32 (x:Int),.int .i64 (n1:Int)]:=by unfold DD chr; rw [hu]
     rw [hdv] at HDEC;have hus:=At hu;have hn1:1≤n1∧n1≤l.length:=⟨hus.1,hus.2.1⟩
     have h1l:(1:Int)≤(l.length:Int):=by omega
     have hqs:Av l = if BP x then Cc x++Av (l.drop n1) else if 128≤x∧x≤159 then E7 x++Av (l.drop n1) else l.take n1++Av (l.drop n1):=by
      cases l with
      | nil=>exact absurd rfl hne
      | cons c r=>exact Dt hu
     clear hus
     by_cases hst:BP x = true
     ·have hx128:x < 128:=by unfold BP at hst; simp at hst; omega
      obtain ⟨c1,l2,hl1,_,hn11⟩:=GI hu hx128;subst hn11
      have hquo:Av l = Cc x++Av l.tail:=by rw [hqs,if_pos hst,List.drop_one]
      have ef:(⟨l.toArray⟩:ByteArray).extract 1 l.length = ⟨l.tail.toArray⟩:=by rw [Bs,List.drop_one]
      have hs4:x < 32∨x = 34∨x = 92∨x = 127:=by unfold BP at hst; simp at hst; omega
      have eR:((x:Int) == 65533) = false:=by simp; omega
      clear hqs hst hl1 hu
      by_cases hc0:x = 34
      ·as_aux_lemma=>
        have HQ:Hid (Av l = [92,34]++Av l.tail):=hid (by rw [hquo,hc0]; try rfl)
        have q32:¬ (x:Int) < 32:=by omega
        have e34:((x:Int) == 34) = true:=by simp; omega
        have hx256:(x:Int) < 256:=by omega
        clear hs4 hquo
        go_wp2_with (first
         | (go_at_call 29; refine (Calls.mono HDEC.out ?_); rintro e w1 ⟨rfl,hbd⟩; have hown1:=hown.below hbd; have hb1:=hb.trans (hbd.mono hb.size))
         | (at_builtin; refine Ac _ rfl _ _ 27 rfl w.heap.size 5 Tryd.underlying27 Ab _ _ rfl hown1 hb1 (Nat.le_refl _) _ (by first | decide | omega) 1 rfl (by (try simp only [List.length_append,List.length_cons,List.length_nil]); omega) ?_; intro v1 w1 hown1 hb1)
         | fail)
        go_roundw
        case rel=>exact ⟨l.tail,_,rfl,hown1,by rw [HEQ.out,HQ.out]; simp,by simp; omega,hb1⟩
        case measure=>simp only [Bi,Am,List.length_tail]; omega
      ·
       by_cases hc1:x = 92
       ·as_aux_lemma=>
         have HQ:Hid (Av l = [92,92]++Av l.tail):=hid (by rw [hquo,hc1]; try rfl)
         have q32:¬ (x:Int) < 32:=by omega
         have e34:((x:Int) == 34) = false:=by simp; omega
         have e92:((x:Int) == 92) = true:=by simp; omega
         have hx256:(x:Int) < 256:=by omega
         clear hs4 hquo
         go_wp2_with (first
          | (go_at_call 29; refine (Calls.mono HDEC.out ?_); rintro e w1 ⟨rfl,hbd⟩; have hown1:=hown.below hbd; have hb1:=hb.trans (hbd.mono hb.size))
          | (at_builtin; refine Ac _ rfl _ _ 27 rfl w.heap.size 5 Tryd.underlying27 Ab _ _ rfl hown1 hb1 (Nat.le_refl _) _ (by first | decide | omega) 1 rfl (by (try simp only [List.length_append,List.length_cons,List.length_nil]); omega) ?_; intro v1 w1 hown1 hb1)
          | fail)
         go_roundw
         case rel=>exact ⟨l.tail,_,rfl,hown1,by rw [HEQ.out,HQ.out]; simp,by simp; omega,hb1⟩
         case measure=>simp only [Bi,Am,List.length_tail]; omega
       ·
        by_cases hc2:x = 10
        ·as_aux_lemma=>
          have HQ:Hid (Av l = [92,110]++Av l.tail):=hid (by rw [hquo]; unfold Cc; rw [if_neg (by omega),if_pos (by omega)])
          have q32:(x:Int) < 32:=by omega
          have e34:((x:Int) == 34) = false:=by simp; omega
          have e92:((x:Int) == 92) = false:=by simp; omega
          have e10:((x:Int) == 10) = true:=by simp; omega
          clear hs4 hquo
          go_wp2_with (first
           | (go_at_call 29; refine (Calls.mono HDEC.out ?_); rintro e w1 ⟨rfl,hbd⟩; have hown1:=hown.below hbd; have hb1:=hb.trans (hbd.mono hb.size))
           | (at_builtin; refine Ac _ rfl _ _ 27 rfl w.heap.size 5 Tryd.underlying27 Ab _ _ rfl hown1 hb1 (Nat.le_refl _) _ (by first | decide | omega) 1 rfl (by (try simp only [List.length_append,List.length_cons,List.length_nil]); omega) ?_; intro v1 w1 hown1 hb1)
           | fail)
          go_roundw
          case rel=>exact ⟨l.tail,_,rfl,hown1,by rw [HEQ.out,HQ.out]; simp,by simp; omega,hb1⟩
          case measure=>simp only [Bi,Am,List.length_tail]; omega
        ·
         by_cases hc3:x = 13
         ·as_aux_lemma=>
           have HQ:Hid (Av l = [92,114]++Av l.tail):=hid (by rw [hquo]; unfold Cc; rw [if_neg (by omega),if_neg (by omega),if_pos (by omega)])
           have q32:(x:Int) < 32:=by omega
           have e34:((x:Int) == 34) = false:=by simp; omega
           have e92:((x:Int) == 92) = false:=by simp; omega
           have e10:((x:Int) == 10) = false:=by simp; omega
           have e13:((x:Int) == 13) = true:=by simp; omega
           clear hs4 hquo
           go_wp2_with (first
            | (go_at_call 29; refine (Calls.mono HDEC.out ?_); rintro e w1 ⟨rfl,hbd⟩; have hown1:=hown.below hbd; have hb1:=hb.trans (hbd.mono hb.size))
            | (at_builtin; refine Ac _ rfl _ _ 27 rfl w.heap.size 5 Tryd.underlying27 Ab _ _ rfl hown1 hb1 (Nat.le_refl _) _ (by first | decide | omega) 1 rfl (by (try simp only [List.length_append,List.length_cons,List.length_nil]); omega) ?_; intro v1 w1 hown1 hb1)
            | fail)
           go_roundw
           case rel=>exact ⟨l.tail,_,rfl,hown1,by rw [HEQ.out,HQ.out]; simp,by simp; omega,hb1⟩
           case measure=>simp only [Bi,Am,List.length_tail]; omega
         ·
          by_cases hc4:x = 9
          ·as_aux_lemma=>
            have HQ:Hid (Av l = [92,116]++Av l.tail):=hid (by rw [hquo]; unfold Cc; rw [if_neg (by omega),if_neg (by omega),if_neg (by omega),if_pos (by omega)])
            have q32:(x:Int) < 32:=by omega
            have e34:((x:Int) == 34) = false:=by simp; omega
            have e92:((x:Int) == 92) = false:=by simp; omega
            have e10:((x:Int) == 10) = false:=by simp; omega
            have e13:((x:Int) == 13) = false:=by simp; omega
            have e9:((x:Int) == 9) = true:=by simp; omega
            clear hs4 hquo
            go_wp2_with (first
             | (go_at_call 29; refine (Calls.mono HDEC.out ?_); rintro e w1 ⟨rfl,hbd⟩; have hown1:=hown.below hbd; have hb1:=hb.trans (hbd.mono hb.size))
             | (at_builtin; refine Ac _ rfl _ _ 27 rfl w.heap.size 5 Tryd.underlying27 Ab _ _ rfl hown1 hb1 (Nat.le_refl _) _ (by first | decide | omega) 1 rfl (by (try simp only [List.length_append,List.length_cons,List.length_nil]); omega) ?_; intro v1 w1 hown1 hb1)
             | fail)
            go_roundw
            case rel=>exact ⟨l.tail,_,rfl,hown1,by rw [HEQ.out,HQ.out]; simp,by simp; omega,hb1⟩
            case measure=>simp only [Bi,Am,List.length_tail]; omega
          ·
           by_cases hc5:x = 0
           ·as_aux_lemma=>
             have HQ:Hid (Av l = [92,120]++[48]++Cp x++Av l.tail):=hid (by rw [hquo,CA (by omega),if_pos (by omega)])
             have q32:(x:Int) < 32:=by omega
             have e34:((x:Int) == 34) = false:=by simp; omega
             have e92:((x:Int) == 92) = false:=by simp; omega
             have e10:((x:Int) == 10) = false:=by simp; omega
             have e13:((x:Int) == 13) = false:=by simp; omega
             have e9:((x:Int) == 9) = false:=by simp; omega
             have hp1:(ByteArray.mk #[48,48]).extract 1 2 = ⟨([48]:List UInt8).toArray⟩:=by rfl
             have hx2:x < 256:=by omega
             have hbit:=Cd ⟨x,hx2⟩;simp only at hbit;have HL:=hid (show ∀ W,Calls Tryd.prog 30 #[.int .u32 (x:Int)] W fun e w'=>e = .returned (.int .i64 (Lib.bitLen x:Int))∧W = w' from fun W=>(Tryd.bits_Len32 (x:Int) W (by omega) (by omega)).mono fun e w' ⟨h1,h2⟩=>⟨by simpa using h1,h2.symm⟩);generalize Lib.bitLen x = b at *
             have hb5:b = 0:=by omega
             have HL:=hid (show ∀ W,Calls Tryd.prog 30 #[.int .u32 (x:Int)] W fun e w'=>e = .returned (.int .i64 0)∧W = w' from fun W=>(HL.out W).mono fun e w' ⟨h1,h2⟩=>⟨by rw [h1,hb5]; try rfl,h2⟩);clear hc5;clear hb5;clear hs4 hquo hbit
             go_wp2_with (first
              | (go_at_call 29; refine (Calls.mono HDEC.out ?_); rintro e w1 ⟨rfl,hbd⟩; have hown1:=hown.below hbd; have hb1:=hb.trans (hbd.mono hb.size))
              | (at_builtin; refine Ac _ rfl _ _ 27 rfl w.heap.size 5 Tryd.underlying27 Ab _ _ rfl hown1 hb1 (Nat.le_refl _) _ (by first | decide | omega) 1 rfl (by (try simp only [List.length_append,List.length_cons,List.length_nil]); omega) ?_; intro v1 w1 hown1 hb1)
              | (go_at_call 30; refine (Calls.mono (HL.out _) ?_); rintro e w' ⟨rfl,rfl⟩)
              | (at_builtin; refine AE _ rfl _ _ _ _ rfl w.heap.size 5 Tryd.underlying27 Tryd.underlying9 Ab _ _ rfl hown1 [48] rfl hb1.size (by (try simp only [List.length_append,List.length_cons,List.length_nil]); omega) ?_; intro v1 w2 ha; obtain ⟨hown1,hb1⟩:_∧_:=⟨ha.own,hb1.grown ha.grown hb1.size (fun k hk=>(World.ownsRow.lt hown1 k hk).1)⟩; clear ha)
              | (go_at_call 31; refine (Calls.mono (AM x hx2 _ _ _ _ hown1 hb1.size (by (try simp only [List.length_append,List.length_cons,List.length_nil]); omega) ((hb1.cell (p:=⟨8,15,none⟩) hdlt).trans HD.out)) ?_); rintro e w2 ⟨v2,rfl,ho2,hb2⟩; obtain ⟨hown1,hb1⟩:_∧_:=⟨ho2,hb1.trans hb2⟩; clear ho2 hb2)
              | fail)
             go_roundw
             case rel=>exact ⟨l.tail,_,rfl,hown1,by rw [HEQ.out,HQ.out]; simp,by simp; omega,hb1⟩
             case measure=>simp only [Bi,Am,List.length_tail]; omega
           ·
            by_cases hc6:x < 16
            ·as_aux_lemma=>
              have HQ:Hid (Av l = [92,120]++[48]++Cp x++Av l.tail):=hid (by rw [hquo,CA (by omega),if_pos (by omega)])
              have q32:(x:Int) < 32:=by omega
              have e34:((x:Int) == 34) = false:=by simp; omega
              have e92:((x:Int) == 92) = false:=by simp; omega
              have e10:((x:Int) == 10) = false:=by simp; omega
              have e13:((x:Int) == 13) = false:=by simp; omega
              have e9:((x:Int) == 9) = false:=by simp; omega
              have hp1:(ByteArray.mk #[48,48]).extract 1 2 = ⟨([48]:List UInt8).toArray⟩:=by rfl
              have hx2:x < 256:=by omega
              have hbit:=Cd ⟨x,hx2⟩;simp only at hbit;have HL:=hid (show ∀ W,Calls Tryd.prog 30 #[.int .u32 (x:Int)] W fun e w'=>e = .returned (.int .i64 (Lib.bitLen x:Int))∧W = w' from fun W=>(Tryd.bits_Len32 (x:Int) W (by omega) (by omega)).mono fun e w' ⟨h1,h2⟩=>⟨by simpa using h1,h2.symm⟩);generalize Lib.bitLen x = b at *
              have hb5:1≤b∧b≤4:=by omega
              have hq4:((b:Int) - 1) / 4 = 0:=by omega
              have hb51:(0:Int)≤(b:Int) - 1:=by omega
              clear hs4 hquo hbit
              go_wp2_with (first
               | (go_at_call 29; refine (Calls.mono HDEC.out ?_); rintro e w1 ⟨rfl,hbd⟩; have hown1:=hown.below hbd; have hb1:=hb.trans (hbd.mono hb.size))
               | (at_builtin; refine Ac _ rfl _ _ 27 rfl w.heap.size 5 Tryd.underlying27 Ab _ _ rfl hown1 hb1 (Nat.le_refl _) _ (by first | decide | omega) 1 rfl (by (try simp only [List.length_append,List.length_cons,List.length_nil]); omega) ?_; intro v1 w1 hown1 hb1)
               | (go_at_call 30; refine (Calls.mono (HL.out _) ?_); rintro e w' ⟨rfl,rfl⟩)
               | (at_builtin; refine AE _ rfl _ _ _ _ rfl w.heap.size 5 Tryd.underlying27 Tryd.underlying9 Ab _ _ rfl hown1 [48] rfl hb1.size (by (try simp only [List.length_append,List.length_cons,List.length_nil]); omega) ?_; intro v1 w2 ha; obtain ⟨hown1,hb1⟩:_∧_:=⟨ha.own,hb1.grown ha.grown hb1.size (fun k hk=>(World.ownsRow.lt hown1 k hk).1)⟩; clear ha)
               | (go_at_call 31; refine (Calls.mono (AM x hx2 _ _ _ _ hown1 hb1.size (by (try simp only [List.length_append,List.length_cons,List.length_nil]); omega) ((hb1.cell (p:=⟨8,15,none⟩) hdlt).trans HD.out)) ?_); rintro e w2 ⟨v2,rfl,ho2,hb2⟩; obtain ⟨hown1,hb1⟩:_∧_:=⟨ho2,hb1.trans hb2⟩; clear ho2 hb2)
               | fail)
              go_roundw
              case rel=>exact ⟨l.tail,_,rfl,hown1,by rw [HEQ.out,HQ.out]; simp,by simp; omega,hb1⟩
              case measure=>simp only [Bi,Am,List.length_tail]; omega
            ·
             by_cases hc7:x < 32
             ·as_aux_lemma=>
               have HQ:Hid (Av l = [92,120]++Cp x++Av l.tail):=hid (by rw [hquo,CA (by omega),if_neg (by omega)])
               have q32:(x:Int) < 32:=by omega
               have e34:((x:Int) == 34) = false:=by simp; omega
               have e92:((x:Int) == 92) = false:=by simp; omega
               have e10:((x:Int) == 10) = false:=by simp; omega
               have e13:((x:Int) == 13) = false:=by simp; omega
               have e9:((x:Int) == 9) = false:=by simp; omega
               have hp2:(ByteArray.mk #[48,48]).extract 2 2 = ⟨([]:List UInt8).toArray⟩:=by rfl
               have hx2:x < 256:=by omega
               have hbit:=Cd ⟨x,hx2⟩;simp only at hbit;have HL:=hid (show ∀ W,Calls Tryd.prog 30 #[.int .u32 (x:Int)] W fun e w'=>e = .returned (.int .i64 (Lib.bitLen x:Int))∧W = w' from fun W=>(Tryd.bits_Len32 (x:Int) W (by omega) (by omega)).mono fun e w' ⟨h1,h2⟩=>⟨by simpa using h1,h2.symm⟩);generalize Lib.bitLen x = b at *
               have hb5:5≤b∧b≤8:=by omega
               have hq4:((b:Int) - 1) / 4 = 1:=by omega
               have hb51:(0:Int)≤(b:Int) - 1:=by omega
               clear hs4 hquo hbit
               go_wp2_with (first
                | (go_at_call 29; refine (Calls.mono HDEC.out ?_); rintro e w1 ⟨rfl,hbd⟩; have hown1:=hown.below hbd; have hb1:=hb.trans (hbd.mono hb.size))
                | (at_builtin; refine Ac _ rfl _ _ 27 rfl w.heap.size 5 Tryd.underlying27 Ab _ _ rfl hown1 hb1 (Nat.le_refl _) _ (by first | decide | omega) 1 rfl (by (try simp only [List.length_append,List.length_cons,List.length_nil]); omega) ?_; intro v1 w1 hown1 hb1)
                | (go_at_call 30; refine (Calls.mono (HL.out _) ?_); rintro e w' ⟨rfl,rfl⟩)
                | (at_builtin; refine AE _ rfl _ _ _ _ rfl w.heap.size 5 Tryd.underlying27 Tryd.underlying9 Ab _ _ rfl hown1 [] rfl hb1.size (by (try simp only [List.length_append,List.length_cons,List.length_nil]); omega) ?_; intro v1 w2 ha; obtain ⟨hown1,hb1⟩:_∧_:=⟨ha.own,hb1.grown ha.grown hb1.size (fun k hk=>(World.ownsRow.lt hown1 k hk).1)⟩; clear ha)
                | (go_at_call 31; refine (Calls.mono (AM x hx2 _ _ _ _ hown1 hb1.size (by (try simp only [List.length_append,List.length_cons,List.length_nil]); omega) ((hb1.cell (p:=⟨8,15,none⟩) hdlt).trans HD.out)) ?_); rintro e w2 ⟨v2,rfl,ho2,hb2⟩; obtain ⟨hown1,hb1⟩:_∧_:=⟨ho2,hb1.trans hb2⟩; clear ho2 hb2)
                | fail)
               go_roundw
               case rel=>exact ⟨l.tail,_,rfl,hown1,by rw [HEQ.out,HQ.out]; simp,by simp; omega,hb1⟩
               case measure=>simp only [Bi,Am,List.length_tail]; omega
             ·
              as_aux_lemma=>
               have HQ:Hid (Av l = [92,120]++Cp x++Av l.tail):=hid (by rw [hquo,CA (by omega),if_neg (by omega)])
               have q32:¬ (x:Int) < 32:=by omega
               have e34:((x:Int) == 34) = false:=by simp; omega
               have e92:((x:Int) == 92) = false:=by simp; omega
               have e10:((x:Int) == 10) = false:=by simp; omega
               have e13:((x:Int) == 13) = false:=by simp; omega
               have e9:((x:Int) == 9) = false:=by simp; omega
               have e127:((x:Int) == 127) = true:=by simp; omega
               have hp2:(ByteArray.mk #[48,48]).extract 2 2 = ⟨([]:List UInt8).toArray⟩:=by rfl
               have hx2:x < 256:=by omega
               have hbit:=Cd ⟨x,hx2⟩;simp only at hbit;have HL:=hid (show ∀ W,Calls Tryd.prog 30 #[.int .u32 (x:Int)] W fun e w'=>e = .returned (.int .i64 (Lib.bitLen x:Int))∧W = w' from fun W=>(Tryd.bits_Len32 (x:Int) W (by omega) (by omega)).mono fun e w' ⟨h1,h2⟩=>⟨by simpa using h1,h2.symm⟩);generalize Lib.bitLen x = b at *
               have hb5:5≤b∧b≤8:=by omega
               have hq4:((b:Int) - 1) / 4 = 1:=by omega
               have hb51:(0:Int)≤(b:Int) - 1:=by omega
               clear hs4 hquo hbit
               go_wp2_with (first
                | (go_at_call 29; refine (Calls.mono HDEC.out ?_); rintro e w1 ⟨rfl,hbd⟩; have hown1:=hown.below hbd; have hb1:=hb.trans (hbd.mono hb.size))
                | (at_builtin; refine Ac _ rfl _ _ 27 rfl w.heap.size 5 Tryd.underlying27 Ab _ _ rfl hown1 hb1 (Nat.le_refl _) _ (by first | decide | omega) 1 rfl (by (try simp only [List.length_append,List.length_cons,List.length_nil]); omega) ?_; intro v1 w1 hown1 hb1)
                | (go_at_call 30; refine (Calls.mono (HL.out _) ?_); rintro e w' ⟨rfl,rfl⟩)
                | (at_builtin; refine AE _ rfl _ _ _ _ rfl w.heap.size 5 Tryd.underlying27 Tryd.underlying9 Ab _ _ rfl hown1 [] rfl hb1.size (by (try simp only [List.length_append,List.length_cons,List.length_nil]); omega) ?_; intro v1 w2 ha; obtain ⟨hown1,hb1⟩:_∧_:=⟨ha.own,hb1.grown ha.grown hb1.size (fun k hk=>(World.ownsRow.lt hown1 k hk).1)⟩; clear ha)
                | (go_at_call 31; refine (Calls.mono (AM x hx2 _ _ _ _ hown1 hb1.size (by (try simp only [List.length_append,List.length_cons,List.length_nil]); omega) ((hb1.cell (p:=⟨8,15,none⟩) hdlt).trans HD.out)) ?_); rintro e w2 ⟨v2,rfl,ho2,hb2⟩; obtain ⟨hown1,hb1⟩:_∧_:=⟨ho2,hb1.trans hb2⟩; clear ho2 hb2)
                | fail)
               go_roundw
               case rel=>exact ⟨l.tail,_,rfl,hown1,by rw [HEQ.out,HQ.out]; simp,by simp; omega,hb1⟩
               case measure=>simp only [Bi,Am,List.length_tail]; omega
     ·have ns:¬ (x < 32∨x = 34∨x = 92∨x = 127):=by intro h; apply hst; unfold BP; simp; omega
      have q32:¬ (x:Int) < 32:=by omega
      have e34:((x:Int) == 34) = false:=by simp; omega
      have e92:((x:Int) == 92) = false:=by simp; omega
      have e127:((x:Int) == 127) = false:=by simp; omega
      have ef:(⟨l.toArray⟩:ByteArray).extract n1 l.length = ⟨(l.drop n1).toArray⟩:=Bs l n1
      have hnI:(n1:Int)≤(l.length:Int):=by omega
      rw [if_neg hst] at hqs;have hone:=fun h1:n1 = 1=>u8_oneQ hu h1;clear hu hst
      by_cases hun:128≤x∧x≤159
      ·as_aux_lemma=>
        have hx2:x < 256:=by omega
        have HQ:Hid (Av l = [92,117]++[48,48]++Cp x++Av (l.drop n1)):=hid (by rw [hqs,if_pos hun]; unfold Cp; rw [if_neg (by omega)]; try rfl)
        have eR:((x:Int) == 65533) = false:=by simp; omega
        have g1:(128:Int)≤(x:Int):=by omega
        have g2:(x:Int)≤159:=by omega
        have g3:(x:Int)≤65535:=by omega
        have hbit:=Cd ⟨x,hx2⟩;simp only at hbit;have HL:=hid (show ∀ W,Calls Tryd.prog 30 #[.int .u32 (x:Int)] W fun e w'=>e = .returned (.int .i64 (Lib.bitLen x:Int))∧W = w' from fun W=>(Tryd.bits_Len32 (x:Int) W (by omega) (by omega)).mono fun e w' ⟨h1,h2⟩=>⟨by simpa using h1,h2.symm⟩);generalize Lib.bitLen x = b at *
        have hb5:5≤b∧b≤8:=by omega
        have hq4:((b:Int) - 1) / 4 = 1:=by omega
        have hb51:(0:Int)≤(b:Int) - 1:=by omega
        have hp4:(ByteArray.mk #[48,48,48,48]).extract 2 4 = ⟨([48,48]:List UInt8).toArray⟩:=by rfl
        clear hqs hbit hone ns hun
        go_wp2_with (first
         | (go_at_call 29; refine (Calls.mono HDEC.out ?_); rintro e w1 ⟨rfl,hbd⟩; have hown1:=hown.below hbd; have hb1:=hb.trans (hbd.mono hb.size))
         | (at_builtin; refine Ac _ rfl _ _ 27 rfl w.heap.size 5 Tryd.underlying27 Ab _ _ rfl hown1 hb1 (Nat.le_refl _) _ (by first | decide | omega) 1 rfl (by (try simp only [List.length_append,List.length_cons,List.length_nil]); omega) ?_; intro v1 w1 hown1 hb1)
         | (go_at_call 30; refine (Calls.mono (HL.out _) ?_); rintro e w' ⟨rfl,rfl⟩)
         | (at_builtin; refine AE _ rfl _ _ _ _ rfl w.heap.size 5 Tryd.underlying27 Tryd.underlying9 Ab _ _ rfl hown1 [48,48] rfl hb1.size (by (try simp only [List.length_append,List.length_cons,List.length_nil]); omega) ?_; intro v1 w2 ha; obtain ⟨hown1,hb1⟩:_∧_:=⟨ha.own,hb1.grown ha.grown hb1.size (fun k hk=>(World.ownsRow.lt hown1 k hk).1)⟩; clear ha)
         | (go_at_call 31; refine (Calls.mono (AM x hx2 _ _ _ _ hown1 hb1.size (by (try simp only [List.length_append,List.length_cons,List.length_nil]); omega) ((hb1.cell (p:=⟨8,15,none⟩) hdlt).trans HD.out)) ?_); rintro e w2 ⟨v2,rfl,ho2,hb2⟩; obtain ⟨hown1,hb1⟩:_∧_:=⟨ho2,hb1.trans hb2⟩; clear ho2 hb2)
         | fail)
        go_roundw
        case rel=>exact ⟨l.drop n1,_,rfl,hown1,by rw [HEQ.out,HQ.out]; simp,by simp; omega,hb1⟩
        case measure=>simp only [Bi,Am,List.length_drop]; omega
      ·rw [if_neg hun] at hqs;have HS2:=Du (l.drop n1);have hi:=Bb Bj (l.drop n1)
       change AV (l.drop n1)≤_ at hi
       have HNS:=hid (show ∀ W,Calls Tryd.prog 28 #[.string ⟨(l.drop n1).toArray⟩] W fun e w'=>e = .returned (.int .i64 (AV (l.drop n1):Int))∧W = w' from fun W=>BQ (l.drop n1) W (by simp; omega));generalize AV (l.drop n1) = i at *;rw [List.length_drop] at hi;have HQ:Hid (Av l = l.take (n1+i)++Av (l.drop (n1+i))):=hid (by rw [hqs,HS2,←List.append_assoc,←List.take_add,List.drop_drop]);have eg:(⟨l.toArray⟩:ByteArray).extract (n1+i) l.length = ⟨(l.drop (n1+i)).toArray⟩:=Bs l (n1+i);have eh:(⟨l.toArray⟩:ByteArray).extract 0 (n1+i) = ⟨(l.take (n1+i)).toArray⟩:=Es l (n1+i);have hwr:IntKind.i64.wrap ((n1:Int)+(i:Int)) = (n1:Int)+(i:Int):=IntWalk.i64_in _ (by omega)
       have hniI:(n1:Int)+(i:Int)≤(l.length:Int):=by omega
       have h0ni:(0:Int)≤(n1:Int)+(i:Int):=by omega
       have hnt:((n1:Int)+(i:Int)).toNat = n1+i:=by omega
       have hz2:=Am (l.drop n1);clear hqs HS2
       rcases (show (x < 128∨160≤x∧x≠65533∨x = 65533) from by omega) with hx | ⟨hx,hx'⟩ | hx
       ·as_aux_lemma=>
         have eR:((x:Int) == 65533) = false:=by simp; omega
         have g1:¬ (128:Int)≤(x:Int):=by omega
         clear ns hun hone
         go_upto_region 35 with (first
          | (go_at_call 29; refine (Calls.mono HDEC.out ?_); rintro e w1 ⟨rfl,hbd⟩; have hown1:=hown.below hbd; have hb1:=hb.trans (hbd.mono hb.size))
          | (go_at_call 28; refine (Calls.mono (HNS.out _) ?_); rintro e w' ⟨rfl,rfl⟩)
          | fail)
         go_region_held3 (fun _=>True) (trivial)
          ((refine Be _ (by rfl) _ _ _ _ (by rfl) w.heap.size 5 Tryd.underlying27 Tryd.underlying9 Ab _ bs (by rfl) hown1 (l.take (n1+i)) (by rfl) hb1.size (by simp; omega) ?_; intro v3 w3 ha))
         all_goals
          go_wp2_with fail
          go_roundw
          case rel=>exact ⟨l.drop (n1+i),_,rfl,ha.own,by rw [HEQ.out,HQ.out]; simp,by simp; omega,(hb1.trans ((Below.refl _ _).drew)).grown ha.grown hb1.size (fun k hk=>(World.ownsRow.lt hown1 k hk).1)⟩
          case measure=>simp only [Bi,Am,List.length_drop]; omega
       ·as_aux_lemma=>
         have eR:((x:Int) == 65533) = false:=by simp; omega
         have g1:(128:Int)≤(x:Int):=by omega
         have g2:¬ (x:Int)≤159:=by omega
         clear ns hun hone
         go_upto_region 35 with (first
          | (go_at_call 29; refine (Calls.mono HDEC.out ?_); rintro e w1 ⟨rfl,hbd⟩; have hown1:=hown.below hbd; have hb1:=hb.trans (hbd.mono hb.size))
          | (go_at_call 28; refine (Calls.mono (HNS.out _) ?_); rintro e w' ⟨rfl,rfl⟩)
          | fail)
         go_region_held3 (fun _=>True) (trivial)
          ((refine Be _ (by rfl) _ _ _ _ (by rfl) w.heap.size 5 Tryd.underlying27 Tryd.underlying9 Ab _ bs (by rfl) hown1 (l.take (n1+i)) (by rfl) hb1.size (by simp; omega) ?_; intro v3 w3 ha))
         all_goals
          go_wp2_with fail
          go_roundw
          case rel=>exact ⟨l.drop (n1+i),_,rfl,ha.own,by rw [HEQ.out,HQ.out]; simp,by simp; omega,(hb1.trans ((Below.refl _ _).drew)).grown ha.grown hb1.size (fun k hk=>(World.ownsRow.lt hown1 k hk).1)⟩
          case measure=>simp only [Bi,Am,List.length_drop]; omega
       ·as_aux_lemma=>
         have eR:((x:Int) == 65533) = true:=by simp; omega
         have eR1:((n1:Int) == 1) = false:=by simp; intro h; have:=hone (by omega); omega
         have g1:(128:Int)≤(x:Int):=by omega
         have g2:¬ (x:Int)≤159:=by omega
         clear ns hun hone
         go_upto_region 35 with (first
          | (go_at_call 29; refine (Calls.mono HDEC.out ?_); rintro e w1 ⟨rfl,hbd⟩; have hown1:=hown.below hbd; have hb1:=hb.trans (hbd.mono hb.size))
          | (go_at_call 28; refine (Calls.mono (HNS.out _) ?_); rintro e w' ⟨rfl,rfl⟩)
          | fail)
         go_region_held3 (fun _=>True) (trivial)
          ((refine Be _ (by rfl) _ _ _ _ (by rfl) w.heap.size 5 Tryd.underlying27 Tryd.underlying9 Ab _ bs (by rfl) hown1 (l.take (n1+i)) (by rfl) hb1.size (by simp; omega) ?_; intro v3 w3 ha))
         all_goals
          go_wp2_with fail
          go_roundw
          case rel=>exact ⟨l.drop (n1+i),_,rfl,ha.own,by rw [HEQ.out,HQ.out]; simp,by simp; omega,(hb1.trans ((Below.refl _ _).drew)).grown ha.grown hb1.size (fun k hk=>(World.ownsRow.lt hown1 k hk).1)⟩
          case measure=>simp only [Bi,Am,List.length_drop]; omega
end
section
def CT (s:List UInt8):List UInt8:=34::Av s++[34]
theorem FB (s:List UInt8):DM (CT s) = some s:=by
 show (match Ak 34 (Av s++[34]) [] with
  | none=>none
  | some (s,_)=>some s) = some s
 rw [F7]
def QuoV (s:List UInt8) (w:World) (e:Ending) (w':World):Prop:=∃ v,e = .returned v∧OwnB w' w.heap.size 5 v (CT s)∧Below w.heap.size w w'
set_option maxRecDepth 100000 in
theorem Dk (s:List UInt8) (w:World) (hm:s.length≤100000) (hT:Lib.Utf8Tabs 1 2 w) (hd:w.cell? ⟨8,15,none⟩ = some (.int .u8 4)) :
  Calls Tryd.prog 10 #[.slice none 0 0,.string ⟨s.toArray⟩] w (QuoV s w):=by
 have HA:=hid (DE s w hm hT hd);clear hT hd
 go_enter Tryd.func10,Tryd.ntmps10
 go_wp2_with (first
  | (go_at_call 15; refine (Calls.mono HA.out ?_); rintro e w1 ⟨v,rfl,ho,hb⟩; have HO:=hid ho; have HB:=hid hb; clear ho hb)
  | fail)
 go_ret
 exact ⟨v,rfl,HO.out,HB.out⟩
set_option maxRecDepth 100000 in
theorem EA (s:List UInt8) (w:World) (hm:s.length≤100000) (hT:Lib.Utf8Tabs 1 2 w) (hd:w.cell? ⟨8,15,none⟩ = some (.int .u8 4)) :
  Calls Tryd.prog 7 #[.string ⟨s.toArray⟩] w (QuoV s w):=by
 have HA:=hid (Dk s w hm hT hd);clear hT hd
 go_enter Tryd.func7,Tryd.ntmps7
 go_wp2_with (first
  | (go_at_call 10; refine (Calls.mono HA.out ?_); rintro e w1 ⟨v,rfl,ho,hb⟩; have HO:=hid ho; have HB:=hid hb; clear ho hb)
  | fail)
 go_ret
 exact ⟨v,rfl,HO.out,HB.out⟩
set_option maxRecDepth 100000 in
theorem DR (s:List UInt8) (w:World) (hg:Glob w) (h9:9≤w.heap.size) (hd:w.cell? ⟨8,15,none⟩ = some (.int .u8 4)):Calls Tryd.prog 4 #[.string ⟨s.toArray⟩] w (D1 w):=by
 have hsz:=Am s;have HG:=hid hg
 by_cases hm:s.length≤10000
 ·have hmI:(s.length:Int)≤10000:=by omega
  have HQ:=hid (EA s w (by omega) hg.tabs hd);obtain ⟨q,hq⟩:∃ q,q = CT s:=⟨_,rfl⟩
  have hql:2≤q.length∧q.length≤600001+1:=by
   have h2:=C8 s.length s;rw [hq];unfold CT Av;simp only [List.length_append,List.length_cons,List.length_nil];omega
  have hqI:(2:Int)≤(q.length:Int):=by omega
  have hq0:∀ h,((⟨q.toArray⟩:ByteArray)[0]'h).toNat = 34:=by
   subst hq;intro h;rfl
  have hq1:∀ h,((⟨q.toArray⟩:ByteArray)[q.length - 1]'h).toNat = 34:=by
   subst hq;intro h
   show ((CT s)[(CT s).length - 1]'_).toNat = 34
   simp [CT]
  have HU:=fun (W:World) (hb:Below w.heap.size w W)=>Cl q W (HG.out.below hb) (Nat.le_trans h9 hb.size) (by omega) (by rw [hq]; rintro c r h; left; have:=(List.cons.inj h).1; rw [←this]; try rfl);rw [hq,FB,←hq] at HU;have HU:=hid HU;unfold QuoV at HQ;rw [←hq] at HQ;have hqz:=Am q;clear hg hd hq
  go_enter Tryd.func4,Tryd.ntmps4
  go_wp2_with (first
   | (go_at_call 7; refine (Calls.mono HQ.out ?_); rintro e w1 ⟨v,rfl,ho,hb⟩; have HO:=hid ho; have HB:=hid hb; clear ho hb)
   | (refine BR _ rfl _ 27 9 rfl w.heap.size 5 Tryd.underlying27 Tryd.underlying5 Tryd.underlying9 _ q rfl HO.out ?_)
   | (go_at_call 6; refine (Calls.mono (HU.out _ HB.out) ?_); rintro e w2 ⟨hb2,rfl⟩; have HB2:=hid (HB.out.trans (hb2.mono HB.out.size)); clear hb2)
   | fail)
  go_ret
  exact ⟨rfl,HB2.out⟩
 ·have hmI:¬ (s.length:Int)≤10000:=by omega
  clear hg hd
  go_enter Tryd.func4,Tryd.ntmps4
  go_wp2_with fail
  all_goals
   go_ret
   exact ⟨rfl,Below.refl _ _⟩
theorem DS (s:ByteArray) (w:World) (hg:Glob w) (h9:9≤w.heap.size) (hd:w.cell? ⟨8,15,none⟩ = some (.int .u8 4)):Calls Tryd.prog 4 #[.string s] w (D1 w):=by
 have:=DR s.data.toList w hg h9 hd;rwa [show (⟨s.data.toList.toArray⟩:ByteArray) = s by simp] at this
end
end Go.Proofs.YtgdnpnipahegaaaDoor
