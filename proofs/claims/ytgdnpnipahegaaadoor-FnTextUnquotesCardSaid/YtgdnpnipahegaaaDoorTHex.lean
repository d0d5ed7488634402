/-
 strconv.ParseUint at base 16, for 8, 16 and 32 bits, of so many bytes that no number is too large: the library's inner function, and the outer.
-/
import Derived.Test.YtgdnpnipahegaaaDoorQ2
import Derived.Test.YtgdnpnipahegaaaDoorQ3
import Derived.Deep.CutBlock
import Derived.Deep.DeepCutAuto
namespace Go.Proofs.YtgdnpnipahegaaaDoor
open Go.ChangeShapes Go.WideShapes Go.ChangeAt Go.RowKit Go.Lib
theorem Br (c:UInt8) (lo:Nat) (h:Hid (A4 c.toNat = lo)) (w:World):Calls Tryd.prog 49 #[.int .u8 (c.toNat:Int)] w fun e w'=>e = .returned (.int .u8 (lo:Int))∧w = w':=by
 rw [←h.out]; exact GP c w
set_option maxRecDepth 100000 in
set_option maxHeartbeats 8000000 in
theorem Dx (l:List UInt8) (w:World) (h1:1≤l.length) (h4:l.length≤2) :
  Calls Tryd.prog 42 #[.string ⟨l.toArray⟩,.int .i64 16,.int .i64 8] w fun e w'=>e = .returned (B2 l)∧Below w.heap.size w w':=by
 have hne:l.isEmpty = false:=by
  cases l with
  | nil=>simp at h1
  | cons c l=>rfl
 have hl1:l.length≤2:=h4;clear h4
 go_enter Tryd.func42,Tryd.ntmps42
 go_wp2_with (first | ((with_reducible refine Dc ?_); refine A6 _ (by rfl) _ 9 27 5 rfl Tryd.underlying9 Tryd.underlying27 Tryd.underlying5 l rfl (by omega) ?_; intro vb wb hvb hbb) | (refine Al _ rfl _ 27 5 rfl Tryd.underlying27 _ _ _ rfl (by assumption) ?_) | fail)
 go_loop [12,13,101] (fun u n i=>u = .bool false∧∃ k m:Nat,k≤l.length∧m+1≤16 ^ k∧n = .int .u64 (m:Int)∧i = .int .i64 (k:Int)∧As 0 l = As m (l.drop k)) (fun _ _ i=>l.length - (Go.RowKit.intOf i).toNat)
 case atStart=>exact ⟨rfl,0,0,Nat.zero_le _,by simp,rfl,rfl,rfl⟩
 case round=>
  obtain ⟨rfl,k,m,hk,hm,rfl,rfl,hx⟩:=hrel;have HX:=hid hx;clear hx;obtain ⟨ao,cp,rfl⟩:=hvb.slice
  have hkI:(k:Int)≤2:=by omega
  by_cases hlt:k < l.length
  ·have hk4:k < l.length:=hlt
   have hkl:(k:Int).toNat < l.length:=by omega
   have hge:l[(k:Int).toNat]'hkl = l[k]:=by simp
   have hst:=Dz (acc:=m) hk4
   have hm3:m≤15:=by have:=Nat.pow_le_pow_right (show 0 < 16 by omega) (show k≤1 by omega); omega
   have hcu:¬ (1152921504606846976:Int)≤(m:Int):=by omega
   have hcu2:¬ 1152921504606846976≤m:=by omega
   have hmm:m * 16+16≤16 ^ (k+1):=by rw [Nat.pow_succ]; omega
   have HM:=hid hmm;clear hmm hm;generalize hc:l[k] = c at hst hge;have bc:=Ao c
   have hlo:A4 c.toNat < 256:=by unfold A4; have:=c.toNat_lt; split <;> omega
   have hlow:A4 c.toNat = c.toNat∨A4 c.toNat = c.toNat+32:=by unfold A4; split <;> simp
   have hl95:c.toNat = 95→A4 c.toNat = 127:=fun h=>by rw [h]; rfl
   by_cases hd:48≤c.toNat∧c.toNat≤57
   ·have hv:AH c.toNat = c.toNat - 48:=by unfold AH; rw [if_pos hd]
    rw [hv,if_pos (by omega)] at hst;have HST:=hid hst;obtain ⟨d1,d2⟩:=hd
    have e1:((c.toNat:Int) == 95) = false:=by simp; omega
    have e2:(48:Int)≤c.toNat:=by omega
    have e3:(c.toNat:Int)≤57:=by omega
    clear hst hv hlow hl95 hlo
    go_wp2_with (first | ((with_reducible refine Ay ?_); refine Ad _ rfl _ _ 27 5 rfl Tryd.underlying27 Ab _ _ _ rfl hvb _ (k:Int) rfl (by omega) hkl ?_; intro ad1 hc1; rw [hge] at hc1) | fail)
    go_round
    case rel=>exact ⟨rfl,k+1,m * 16+(c.toNat - 48),by omega,by have:=HM.out; omega,by go_num,by go_num,by rw [HX.out,HST.out]⟩
    case measure=>simp [Go.RowKit.intOf]; omega
   ·generalize hLO:A4 c.toNat = lo at *;have HLO:=hid hLO;clear hLO
    by_cases hlt2:97≤lo∧lo≤122
    ·obtain ⟨q1,q2⟩:=hlt2
     have e1:((c.toNat:Int) == 95) = false:=by simp; omega
     have e2:(48:Int)≤c.toNat:=by omega
     have e3:¬ (c.toNat:Int)≤57:=by omega
     have e4:(97:Int)≤lo:=by omega
     have e5:(lo:Int)≤122:=by omega
     have hv:AH c.toNat = min 16 (lo - 87):=by unfold AH; rw [if_neg hd,HLO.out,if_pos ⟨q1,q2⟩]
     rw [hv] at hst;clear hv hlow hl95 hlo hd
     by_cases hf:lo≤102
     ·rw [if_pos (by omega),show min 16 (lo - 87) = lo - 87 by omega] at hst;have HST:=hid hst;clear hst
      have e6:(lo:Int)≤102:=by omega
      go_upto_region 46 with (first | ((with_reducible refine Ay ?_); refine Ad _ rfl _ _ 27 5 rfl Tryd.underlying27 Ab _ _ _ rfl hvb _ (k:Int) rfl (by omega) hkl ?_; intro ad1 hc1; rw [hge] at hc1) | (go_at_call 49; refine (Br c lo HLO _).mono ?_; rintro e w' ⟨rfl,rfl⟩))
      obtain ⟨dd,hdd,hdn⟩:∃ dd:Nat,(lo:Int) - 97+10 = (dd:Int)∧dd = lo - 87:=⟨lo - 87,by omega,rfl⟩;rw [hdd]
      have hd16:¬ (16:Int)≤(dd:Int):=by omega
      have hd15:dd≤15:=by omega
      have HDN:=hid hdn;have hcuN:m≤15:=hm3;clear hdd hdn e4 e5 e6 q1 q2
      go_upto_region 48 with fail
      have hcu3:¬ (1152921504606846976:Int)≤(m:Int):=by omega
      go_upto_region 50 with fail
      have hz2:¬ (255:Int) < (m:Int) * 16+(dd:Int):=by omega
      have hz3:¬ (m:Int) * 16+(dd:Int) < (m:Int) * 16:=by omega
      go_wp2_with fail
      go_round
      case rel=>exact ⟨rfl,k+1,m * 16+dd,by omega,by have:=HM.out; omega,by go_num,by go_num,by rw [HX.out,HST.out,←HDN.out]⟩
      case measure=>simp [Go.RowKit.intOf]; omega
     ·rw [if_neg (by omega)] at hst;have HF:=hid (A0 (HX.out.trans hst));clear hst
      have e6:¬ (lo:Int)≤102:=by omega
      go_upto_region 46 with (first | ((with_reducible refine Ay ?_); refine Ad _ rfl _ _ 27 5 rfl Tryd.underlying27 Ab _ _ _ rfl hvb _ (k:Int) rfl (by omega) hkl ?_; intro ad1 hc1; rw [hge] at hc1) | (go_at_call 49; refine (Br c lo HLO _).mono ?_; rintro e w' ⟨rfl,rfl⟩))
      obtain ⟨dd,hdd,hdn⟩:∃ dd:Nat,(lo:Int) - 97+10 = (dd:Int)∧dd = lo - 87:=⟨lo - 87,by omega,rfl⟩;rw [hdd]
      have hd16:(16:Int)≤(dd:Int):=by omega
      clear hdd hdn e4 e5 e6 q1 q2
      go_wp2_with fail
      go_ret2
      exact ⟨by rw [HF.out]; rfl,hbb⟩
    ·have hv:AH c.toNat = 16:=by unfold AH; rw [if_neg hd,HLO.out,if_neg hlt2]
     rw [hv,if_neg (by omega)] at hst;have HF:=hid (A0 (HX.out.trans hst))
     have hs1:((((c.toNat:Int) == 95) = false∧decide ((48:Int)≤c.toNat) = false)∨(((c.toNat:Int) == 95) = false∧decide ((48:Int)≤c.toNat) = true∧decide ((c.toNat:Int)≤57) = false))∨(((c.toNat:Int) == 95) = true∧decide ((48:Int)≤c.toNat) = true∧decide ((c.toNat:Int)≤57) = false):=by simp; omega
     have hs2:decide ((97:Int)≤lo) = false∨(decide ((97:Int)≤lo) = true∧decide ((lo:Int)≤122) = false):=by simp; omega
     clear hst hv hlow hl95 hd hlt2
     rcases hs1 with (⟨e1,e2⟩ | ⟨e1,e2,e3⟩) | ⟨e1,e2,e3⟩ <;> rcases hs2 with e4 | ⟨e4,e5⟩
     all_goals
      have E4:=hid e4
      try have E5:=hid e5
      clear e4
      try clear e5
      go_wp2_with (first | ((with_reducible refine Ay ?_); refine Ad _ rfl _ _ 27 5 rfl Tryd.underlying27 Ab _ _ _ rfl hvb _ (k:Int) rfl (by omega) hkl ?_; intro ad1 hc1; rw [hge] at hc1) | (go_at_call 49; refine (Br c lo HLO _).mono ?_; rintro e w' ⟨rfl,rfl⟩; have e6:=E4.out; try have e7:=E5.out) | fail)
      go_ret2
      exact ⟨by rw [HF.out]; rfl,hbb⟩
  ·have hk4:k = l.length:=by omega
   have HF:Hid (B2 l = .tuple #[.int .u64 (m:Int),.nilIface]):=hid (Bm (by rw [HX.out,List.drop_of_length_le (by omega)]; rfl));clear hk4
   go_wp2_with fail
   go_ret2
   exact ⟨by rw [HF.out]; rfl,hbb⟩
set_option maxRecDepth 100000 in
theorem DO (l:List UInt8) (n:Nat) (w:World) (h1:1≤l.length) (h4:l.length≤2) (hn:As 0 l = some n) :
  Calls Tryd.prog 25 #[.string ⟨l.toArray⟩,.int .i64 16,.int .i64 8] w fun e w'=>e = .returned (.tuple #[.int .u64 (n:Int),.nilIface])∧Below w.heap.size w w':=by
 have HP:=hid (Dx l w h1 h4);rw [Bm hn] at HP
 go_enter Tryd.func25,Tryd.ntmps25
 go_wp2_with (first | (go_at_call 42; refine (Calls.mono HP.out ?_); rintro e w1 ⟨rfl,hb1⟩) | fail)
 go_ret2
 exact ⟨rfl,hb1⟩
set_option maxRecDepth 100000 in
set_option maxHeartbeats 8000000 in
theorem BT (l:List UInt8) (w:World) (h1:1≤l.length) (h4:l.length≤4) :
  Calls Tryd.prog 42 #[.string ⟨l.toArray⟩,.int .i64 16,.int .i64 16] w fun e w'=>e = .returned (B2 l)∧Below w.heap.size w w':=by
 have hne:l.isEmpty = false:=by
  cases l with
  | nil=>simp at h1
  | cons c l=>rfl
 have hl1:l.length≤4:=h4;clear h4
 go_enter Tryd.func42,Tryd.ntmps42
 go_wp2_with (first | ((with_reducible refine Dc ?_); refine A6 _ (by rfl) _ 9 27 5 rfl Tryd.underlying9 Tryd.underlying27 Tryd.underlying5 l rfl (by omega) ?_; intro vb wb hvb hbb) | (refine Al _ rfl _ 27 5 rfl Tryd.underlying27 _ _ _ rfl (by assumption) ?_) | fail)
 go_loop [12,13,101] (fun u n i=>u = .bool false∧∃ k m:Nat,k≤l.length∧m+1≤16 ^ k∧n = .int .u64 (m:Int)∧i = .int .i64 (k:Int)∧As 0 l = As m (l.drop k)) (fun _ _ i=>l.length - (Go.RowKit.intOf i).toNat)
 case atStart=>exact ⟨rfl,0,0,Nat.zero_le _,by simp,rfl,rfl,rfl⟩
 case round=>
  obtain ⟨rfl,k,m,hk,hm,rfl,rfl,hx⟩:=hrel;have HX:=hid hx;clear hx;obtain ⟨ao,cp,rfl⟩:=hvb.slice
  have hkI:(k:Int)≤4:=by omega
  by_cases hlt:k < l.length
  ·have hk4:k < l.length:=hlt
   have hkl:(k:Int).toNat < l.length:=by omega
   have hge:l[(k:Int).toNat]'hkl = l[k]:=by simp
   have hst:=Dz (acc:=m) hk4
   have hm3:m≤4095:=by have:=Nat.pow_le_pow_right (show 0 < 16 by omega) (show k≤3 by omega); omega
   have hcu:¬ (1152921504606846976:Int)≤(m:Int):=by omega
   have hcu2:¬ 1152921504606846976≤m:=by omega
   have hmm:m * 16+16≤16 ^ (k+1):=by rw [Nat.pow_succ]; omega
   have HM:=hid hmm;clear hmm hm;generalize hc:l[k] = c at hst hge;have bc:=Ao c
   have hlo:A4 c.toNat < 256:=by unfold A4; have:=c.toNat_lt; split <;> omega
   have hlow:A4 c.toNat = c.toNat∨A4 c.toNat = c.toNat+32:=by unfold A4; split <;> simp
   have hl95:c.toNat = 95→A4 c.toNat = 127:=fun h=>by rw [h]; rfl
   by_cases hd:48≤c.toNat∧c.toNat≤57
   ·have hv:AH c.toNat = c.toNat - 48:=by unfold AH; rw [if_pos hd]
    rw [hv,if_pos (by omega)] at hst;have HST:=hid hst;obtain ⟨d1,d2⟩:=hd
    have e1:((c.toNat:Int) == 95) = false:=by simp; omega
    have e2:(48:Int)≤c.toNat:=by omega
    have e3:(c.toNat:Int)≤57:=by omega
    clear hst hv hlow hl95 hlo
    go_wp2_with (first | ((with_reducible refine Ay ?_); refine Ad _ rfl _ _ 27 5 rfl Tryd.underlying27 Ab _ _ _ rfl hvb _ (k:Int) rfl (by omega) hkl ?_; intro ad1 hc1; rw [hge] at hc1) | fail)
    go_round
    case rel=>exact ⟨rfl,k+1,m * 16+(c.toNat - 48),by omega,by have:=HM.out; omega,by go_num,by go_num,by rw [HX.out,HST.out]⟩
    case measure=>simp [Go.RowKit.intOf]; omega
   ·generalize hLO:A4 c.toNat = lo at *;have HLO:=hid hLO;clear hLO
    by_cases hlt2:97≤lo∧lo≤122
    ·obtain ⟨q1,q2⟩:=hlt2
     have e1:((c.toNat:Int) == 95) = false:=by simp; omega
     have e2:(48:Int)≤c.toNat:=by omega
     have e3:¬ (c.toNat:Int)≤57:=by omega
     have e4:(97:Int)≤lo:=by omega
     have e5:(lo:Int)≤122:=by omega
     have hv:AH c.toNat = min 16 (lo - 87):=by unfold AH; rw [if_neg hd,HLO.out,if_pos ⟨q1,q2⟩]
     rw [hv] at hst;clear hv hlow hl95 hlo hd
     by_cases hf:lo≤102
     ·rw [if_pos (by omega),show min 16 (lo - 87) = lo - 87 by omega] at hst;have HST:=hid hst;clear hst
      have e6:(lo:Int)≤102:=by omega
      go_upto_region 46 with (first | ((with_reducible refine Ay ?_); refine Ad _ rfl _ _ 27 5 rfl Tryd.underlying27 Ab _ _ _ rfl hvb _ (k:Int) rfl (by omega) hkl ?_; intro ad1 hc1; rw [hge] at hc1) | (go_at_call 49; refine (Br c lo HLO _).mono ?_; rintro e w' ⟨rfl,rfl⟩))
      obtain ⟨dd,hdd,hdn⟩:∃ dd:Nat,(lo:Int) - 97+10 = (dd:Int)∧dd = lo - 87:=⟨lo - 87,by omega,rfl⟩;rw [hdd]
      have hd16:¬ (16:Int)≤(dd:Int):=by omega
      have hd15:dd≤15:=by omega
      have HDN:=hid hdn;have hcuN:m≤4095:=hm3;clear hdd hdn e4 e5 e6 q1 q2
      go_upto_region 48 with fail
      have hcu3:¬ (1152921504606846976:Int)≤(m:Int):=by omega
      go_upto_region 50 with fail
      have hz2:¬ (65535:Int) < (m:Int) * 16+(dd:Int):=by omega
      have hz3:¬ (m:Int) * 16+(dd:Int) < (m:Int) * 16:=by omega
      go_wp2_with fail
      go_round
      case rel=>exact ⟨rfl,k+1,m * 16+dd,by omega,by have:=HM.out; omega,by go_num,by go_num,by rw [HX.out,HST.out,←HDN.out]⟩
      case measure=>simp [Go.RowKit.intOf]; omega
     ·rw [if_neg (by omega)] at hst;have HF:=hid (A0 (HX.out.trans hst));clear hst
      have e6:¬ (lo:Int)≤102:=by omega
      go_upto_region 46 with (first | ((with_reducible refine Ay ?_); refine Ad _ rfl _ _ 27 5 rfl Tryd.underlying27 Ab _ _ _ rfl hvb _ (k:Int) rfl (by omega) hkl ?_; intro ad1 hc1; rw [hge] at hc1) | (go_at_call 49; refine (Br c lo HLO _).mono ?_; rintro e w' ⟨rfl,rfl⟩))
      obtain ⟨dd,hdd,hdn⟩:∃ dd:Nat,(lo:Int) - 97+10 = (dd:Int)∧dd = lo - 87:=⟨lo - 87,by omega,rfl⟩;rw [hdd]
      have hd16:(16:Int)≤(dd:Int):=by omega
      clear hdd hdn e4 e5 e6 q1 q2
      go_wp2_with fail
      go_ret2
      exact ⟨by rw [HF.out]; rfl,hbb⟩
    ·have hv:AH c.toNat = 16:=by unfold AH; rw [if_neg hd,HLO.out,if_neg hlt2]
     rw [hv,if_neg (by omega)] at hst;have HF:=hid (A0 (HX.out.trans hst))
     have hs1:((((c.toNat:Int) == 95) = false∧decide ((48:Int)≤c.toNat) = false)∨(((c.toNat:Int) == 95) = false∧decide ((48:Int)≤c.toNat) = true∧decide ((c.toNat:Int)≤57) = false))∨(((c.toNat:Int) == 95) = true∧decide ((48:Int)≤c.toNat) = true∧decide ((c.toNat:Int)≤57) = false):=by simp; omega
     have hs2:decide ((97:Int)≤lo) = false∨(decide ((97:Int)≤lo) = true∧decide ((lo:Int)≤122) = false):=by simp; omega
     clear hst hv hlow hl95 hd hlt2
     rcases hs1 with (⟨e1,e2⟩ | ⟨e1,e2,e3⟩) | ⟨e1,e2,e3⟩ <;> rcases hs2 with e4 | ⟨e4,e5⟩
     all_goals
      have E4:=hid e4
      try have E5:=hid e5
      clear e4
      try clear e5
      go_wp2_with (first | ((with_reducible refine Ay ?_); refine Ad _ rfl _ _ 27 5 rfl Tryd.underlying27 Ab _ _ _ rfl hvb _ (k:Int) rfl (by omega) hkl ?_; intro ad1 hc1; rw [hge] at hc1) | (go_at_call 49; refine (Br c lo HLO _).mono ?_; rintro e w' ⟨rfl,rfl⟩; have e6:=E4.out; try have e7:=E5.out) | fail)
      go_ret2
      exact ⟨by rw [HF.out]; rfl,hbb⟩
  ·have hk4:k = l.length:=by omega
   have HF:Hid (B2 l = .tuple #[.int .u64 (m:Int),.nilIface]):=hid (Bm (by rw [HX.out,List.drop_of_length_le (by omega)]; rfl));clear hk4
   go_wp2_with fail
   go_ret2
   exact ⟨by rw [HF.out]; rfl,hbb⟩
set_option maxRecDepth 100000 in
theorem B9 (l:List UInt8) (n:Nat) (w:World) (h1:1≤l.length) (h4:l.length≤4) (hn:As 0 l = some n) :
  Calls Tryd.prog 25 #[.string ⟨l.toArray⟩,.int .i64 16,.int .i64 16] w fun e w'=>e = .returned (.tuple #[.int .u64 (n:Int),.nilIface])∧Below w.heap.size w w':=by
 have HP:=hid (BT l w h1 h4);rw [Bm hn] at HP
 go_enter Tryd.func25,Tryd.ntmps25
 go_wp2_with (first | (go_at_call 42; refine (Calls.mono HP.out ?_); rintro e w1 ⟨rfl,hb1⟩) | fail)
 go_ret2
 exact ⟨rfl,hb1⟩
set_option maxRecDepth 100000 in
theorem Ca (l:List UInt8) (w:World) (h1:1≤l.length) (h4:l.length≤4) (hn:As 0 l = none) (hv:ErrVar 3 w) :
  Calls Tryd.prog 25 #[.string ⟨l.toArray⟩,.int .i64 16,.int .i64 16] w fun e w'=>(∃ t x,e = .returned (.tuple #[.int .u64 0,.iface t x]))∧Below w.heap.size w w':=by
 have HP:=hid (BT l w h1 h4);rw [A0 hn] at HP
 have hsz:(⟨l.toArray⟩:ByteArray).size≤281474976710656:=by rw [Am]; omega
 go_enter Tryd.func25,Tryd.ntmps25
 go_wp2_with (first | (go_at_call 42; refine (Calls.mono HP.out ?_); rintro e w1 ⟨rfl,hb1⟩; have hv1:=hv.below hb1) | (go_at_call 43; refine (Cu _ _ _ _ _ hsz hv1).mono ?_; rintro e w2 ⟨N,rfl,hb2⟩) | fail)
 go_ret2
 exact ⟨⟨_,_,rfl⟩,Aa hb1 hb2⟩
set_option maxRecDepth 100000 in
set_option maxHeartbeats 8000000 in
theorem BS (l:List UInt8) (w:World) (h1:1≤l.length) (h4:l.length≤8) :
  Calls Tryd.prog 42 #[.string ⟨l.toArray⟩,.int .i64 16,.int .i64 32] w fun e w'=>e = .returned (B2 l)∧Below w.heap.size w w':=by
 have hne:l.isEmpty = false:=by
  cases l with
  | nil=>simp at h1
  | cons c l=>rfl
 have hl1:l.length≤8:=h4;clear h4
 go_enter Tryd.func42,Tryd.ntmps42
 go_wp2_with (first | ((with_reducible refine Dc ?_); refine A6 _ (by rfl) _ 9 27 5 rfl Tryd.underlying9 Tryd.underlying27 Tryd.underlying5 l rfl (by omega) ?_; intro vb wb hvb hbb) | (refine Al _ rfl _ 27 5 rfl Tryd.underlying27 _ _ _ rfl (by assumption) ?_) | fail)
 go_loop [12,13,101] (fun u n i=>u = .bool false∧∃ k m:Nat,k≤l.length∧m+1≤16 ^ k∧n = .int .u64 (m:Int)∧i = .int .i64 (k:Int)∧As 0 l = As m (l.drop k)) (fun _ _ i=>l.length - (Go.RowKit.intOf i).toNat)
 case atStart=>exact ⟨rfl,0,0,Nat.zero_le _,by simp,rfl,rfl,rfl⟩
 case round=>
  obtain ⟨rfl,k,m,hk,hm,rfl,rfl,hx⟩:=hrel;have HX:=hid hx;clear hx;obtain ⟨ao,cp,rfl⟩:=hvb.slice
  have hkI:(k:Int)≤8:=by omega
  by_cases hlt:k < l.length
  ·have hk4:k < l.length:=hlt
   have hkl:(k:Int).toNat < l.length:=by omega
   have hge:l[(k:Int).toNat]'hkl = l[k]:=by simp
   have hst:=Dz (acc:=m) hk4
   have hm3:m≤268435455:=by have:=Nat.pow_le_pow_right (show 0 < 16 by omega) (show k≤7 by omega); omega
   have hcu:¬ (1152921504606846976:Int)≤(m:Int):=by omega
   have hcu2:¬ 1152921504606846976≤m:=by omega
   have hmm:m * 16+16≤16 ^ (k+1):=by rw [Nat.pow_succ]; omega
   have HM:=hid hmm;clear hmm hm;generalize hc:l[k] = c at hst hge;have bc:=Ao c
   have hlo:A4 c.toNat < 256:=by unfold A4; have:=c.toNat_lt; split <;> omega
   have hlow:A4 c.toNat = c.toNat∨A4 c.toNat = c.toNat+32:=by unfold A4; split <;> simp
   have hl95:c.toNat = 95→A4 c.toNat = 127:=fun h=>by rw [h]; rfl
   by_cases hd:48≤c.toNat∧c.toNat≤57
   ·have hv:AH c.toNat = c.toNat - 48:=by unfold AH; rw [if_pos hd]
    rw [hv,if_pos (by omega)] at hst;have HST:=hid hst;obtain ⟨d1,d2⟩:=hd
    have e1:((c.toNat:Int) == 95) = false:=by simp; omega
    have e2:(48:Int)≤c.toNat:=by omega
    have e3:(c.toNat:Int)≤57:=by omega
    clear hst hv hlow hl95 hlo
    go_wp2_with (first | ((with_reducible refine Ay ?_); refine Ad _ rfl _ _ 27 5 rfl Tryd.underlying27 Ab _ _ _ rfl hvb _ (k:Int) rfl (by omega) hkl ?_; intro ad1 hc1; rw [hge] at hc1) | fail)
    go_round
    case rel=>exact ⟨rfl,k+1,m * 16+(c.toNat - 48),by omega,by have:=HM.out; omega,by go_num,by go_num,by rw [HX.out,HST.out]⟩
    case measure=>simp [Go.RowKit.intOf]; omega
   ·generalize hLO:A4 c.toNat = lo at *;have HLO:=hid hLO;clear hLO
    by_cases hlt2:97≤lo∧lo≤122
    ·obtain ⟨q1,q2⟩:=hlt2
     have e1:((c.toNat:Int) == 95) = false:=by simp; omega
     have e2:(48:Int)≤c.toNat:=by omega
     have e3:¬ (c.toNat:Int)≤57:=by omega
     have e4:(97:Int)≤lo:=by omega
     have e5:(lo:Int)≤122:=by omega
     have hv:AH c.toNat = min 16 (lo - 87):=by unfold AH; rw [if_neg hd,HLO.out,if_pos ⟨q1,q2⟩]
     rw [hv] at hst;clear hv hlow hl95 hlo hd
     by_cases hf:lo≤102
     ·rw [if_pos (by omega),show min 16 (lo - 87) = lo - 87 by omega] at hst;have HST:=hid hst;clear hst
      have e6:(lo:Int)≤102:=by omega
      go_upto_region 46 with (first | ((with_reducible refine Ay ?_); refine Ad _ rfl _ _ 27 5 rfl Tryd.underlying27 Ab _ _ _ rfl hvb _ (k:Int) rfl (by omega) hkl ?_; intro ad1 hc1; rw [hge] at hc1) | (go_at_call 49; refine (Br c lo HLO _).mono ?_; rintro e w' ⟨rfl,rfl⟩))
      obtain ⟨dd,hdd,hdn⟩:∃ dd:Nat,(lo:Int) - 97+10 = (dd:Int)∧dd = lo - 87:=⟨lo - 87,by omega,rfl⟩;rw [hdd]
      have hd16:¬ (16:Int)≤(dd:Int):=by omega
      have hd15:dd≤15:=by omega
      have HDN:=hid hdn;have hcuN:m≤268435455:=hm3;clear hdd hdn e4 e5 e6 q1 q2
      go_upto_region 48 with fail
      have hcu3:¬ (1152921504606846976:Int)≤(m:Int):=by omega
      go_upto_region 50 with fail
      have hz2:¬ (4294967295:Int) < (m:Int) * 16+(dd:Int):=by omega
      have hz3:¬ (m:Int) * 16+(dd:Int) < (m:Int) * 16:=by omega
      go_wp2_with fail
      go_round
      case rel=>exact ⟨rfl,k+1,m * 16+dd,by omega,by have:=HM.out; omega,by go_num,by go_num,by rw [HX.out,HST.out,←HDN.out]⟩
      case measure=>simp [Go.RowKit.intOf]; omega
     ·rw [if_neg (by omega)] at hst;have HF:=hid (A0 (HX.out.trans hst));clear hst
      have e6:¬ (lo:Int)≤102:=by omega
      go_upto_region 46 with (first | ((with_reducible refine Ay ?_); refine Ad _ rfl _ _ 27 5 rfl Tryd.underlying27 Ab _ _ _ rfl hvb _ (k:Int) rfl (by omega) hkl ?_; intro ad1 hc1; rw [hge] at hc1) | (go_at_call 49; refine (Br c lo HLO _).mono ?_; rintro e w' ⟨rfl,rfl⟩))
      obtain ⟨dd,hdd,hdn⟩:∃ dd:Nat,(lo:Int) - 97+10 = (dd:Int)∧dd = lo - 87:=⟨lo - 87,by omega,rfl⟩;rw [hdd]
      have hd16:(16:Int)≤(dd:Int):=by omega
      clear hdd hdn e4 e5 e6 q1 q2
      go_wp2_with fail
      go_ret2
      exact ⟨by rw [HF.out]; rfl,hbb⟩
    ·have hv:AH c.toNat = 16:=by unfold AH; rw [if_neg hd,HLO.out,if_neg hlt2]
     rw [hv,if_neg (by omega)] at hst;have HF:=hid (A0 (HX.out.trans hst))
     have hs1:((((c.toNat:Int) == 95) = false∧decide ((48:Int)≤c.toNat) = false)∨(((c.toNat:Int) == 95) = false∧decide ((48:Int)≤c.toNat) = true∧decide ((c.toNat:Int)≤57) = false))∨(((c.toNat:Int) == 95) = true∧decide ((48:Int)≤c.toNat) = true∧decide ((c.toNat:Int)≤57) = false):=by simp; omega
     have hs2:decide ((97:Int)≤lo) = false∨(decide ((97:Int)≤lo) = true∧decide ((lo:Int)≤122) = false):=by simp; omega
     clear hst hv hlow hl95 hd hlt2
     rcases hs1 with (⟨e1,e2⟩ | ⟨e1,e2,e3⟩) | ⟨e1,e2,e3⟩ <;> rcases hs2 with e4 | ⟨e4,e5⟩
     all_goals
      have E4:=hid e4
      try have E5:=hid e5
      clear e4
      try clear e5
      go_wp2_with (first | ((with_reducible refine Ay ?_); refine Ad _ rfl _ _ 27 5 rfl Tryd.underlying27 Ab _ _ _ rfl hvb _ (k:Int) rfl (by omega) hkl ?_; intro ad1 hc1; rw [hge] at hc1) | (go_at_call 49; refine (Br c lo HLO _).mono ?_; rintro e w' ⟨rfl,rfl⟩; have e6:=E4.out; try have e7:=E5.out) | fail)
      go_ret2
      exact ⟨by rw [HF.out]; rfl,hbb⟩
  ·have hk4:k = l.length:=by omega
   have HF:Hid (B2 l = .tuple #[.int .u64 (m:Int),.nilIface]):=hid (Bm (by rw [HX.out,List.drop_of_length_le (by omega)]; rfl));clear hk4
   go_wp2_with fail
   go_ret2
   exact ⟨by rw [HF.out]; rfl,hbb⟩
set_option maxRecDepth 100000 in
theorem B7 (l:List UInt8) (n:Nat) (w:World) (h1:1≤l.length) (h4:l.length≤8) (hn:As 0 l = some n) :
  Calls Tryd.prog 25 #[.string ⟨l.toArray⟩,.int .i64 16,.int .i64 32] w fun e w'=>e = .returned (.tuple #[.int .u64 (n:Int),.nilIface])∧Below w.heap.size w w':=by
 have HP:=hid (BS l w h1 h4);rw [Bm hn] at HP
 go_enter Tryd.func25,Tryd.ntmps25
 go_wp2_with (first | (go_at_call 42; refine (Calls.mono HP.out ?_); rintro e w1 ⟨rfl,hb1⟩) | fail)
 go_ret2
 exact ⟨rfl,hb1⟩
set_option maxRecDepth 100000 in
theorem B8 (l:List UInt8) (w:World) (h1:1≤l.length) (h4:l.length≤8) (hn:As 0 l = none) (hv:ErrVar 3 w) :
  Calls Tryd.prog 25 #[.string ⟨l.toArray⟩,.int .i64 16,.int .i64 32] w fun e w'=>(∃ t x,e = .returned (.tuple #[.int .u64 0,.iface t x]))∧Below w.heap.size w w':=by
 have HP:=hid (BS l w h1 h4);rw [A0 hn] at HP
 have hsz:(⟨l.toArray⟩:ByteArray).size≤281474976710656:=by rw [Am]; omega
 go_enter Tryd.func25,Tryd.ntmps25
 go_wp2_with (first | (go_at_call 42; refine (Calls.mono HP.out ?_); rintro e w1 ⟨rfl,hb1⟩; have hv1:=hv.below hb1) | (go_at_call 43; refine (Cu _ _ _ _ _ hsz hv1).mono ?_; rintro e w2 ⟨N,rfl,hb2⟩) | fail)
 go_ret2
 exact ⟨⟨_,_,rfl⟩,Aa hb1 hb2⟩
set_option maxRecDepth 100000 in
theorem Dy (w:World) (hv:ErrVar 3 w) :
  Calls Tryd.prog 25 #[.string ⟨([]:List UInt8).toArray⟩,.int .i64 16,.int .i64 8] w fun e w'=>(∃ t x,e = .returned (.tuple #[.int .u64 0,.iface t x]))∧Below w.heap.size w w':=by
 have HP:Hid (Calls Tryd.prog 42 #[.string ⟨([]:List UInt8).toArray⟩,.int .i64 16,.int .i64 8] w fun e w'=>e = .returned (.tuple #[.int .u64 0,.iface 92 (.int .i64 2)])∧w = w'):=hid (by
  go_enter Tryd.func42,Tryd.ntmps42
  go_wp2_with fail
  go_ret2
  exact ⟨rfl,rfl⟩)
 have hsz:(⟨([]:List UInt8).toArray⟩:ByteArray).size≤281474976710656:=by rw [Am]; simp
 go_enter Tryd.func25,Tryd.ntmps25
 go_wp2_with (first | (go_at_call 42; refine (Calls.mono HP.out ?_); rintro e w1 ⟨rfl,rfl⟩) | (go_at_call 43; refine (Cu _ _ _ _ _ hsz hv).mono ?_; rintro e w2 ⟨N,rfl,hb2⟩) | fail)
 go_ret2
 exact ⟨⟨_,_,rfl⟩,hb2⟩
end Go.Proofs.YtgdnpnipahegaaaDoor
