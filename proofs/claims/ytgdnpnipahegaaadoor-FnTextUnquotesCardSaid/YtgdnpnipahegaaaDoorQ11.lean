/-
 strconv.ParseUint at base 8, for 8 bits, of at most three digits of that base: the number, or none where it is too large.
-/
import Derived.Test.YtgdnpnipahegaaaDoorTHex
import Derived.Test.YtgdnpnipahegaaaDoorQ2
import Derived.Test.YtgdnpnipahegaaaDoorQ5
import Derived.Test.YtgdnpnipahegaaaDoorQ7
import Derived.Test.YtgdnpnipahegaaaDoorQ9
import Derived.Test.YtgdnpnipahegaaaDoorQ8
import Derived.FnLit
namespace Go.Proofs.YtgdnpnipahegaaaDoor
section
open Go.ChangeShapes Go.WideShapes Go.ChangeAt Go.RowKit Go.Lib
def Fh (l:List UInt8):Value:=if 255 < BH 0 l then .tuple #[.int .u64 255,.iface 92 (.int .i64 1)] else .tuple #[.int .u64 (BH 0 l:Int),.nilIface]
theorem DI {l:List UInt8} {n:Nat} (h:BH 0 l = n) (hn:n≤255):Fh l = .tuple #[.int .u64 (n:Int),.nilIface]:=by subst h; exact if_neg (show ¬ 255 < BH 0 l by omega)
theorem DJ {l:List UInt8} (h:255 < BH 0 l):Fh l = .tuple #[.int .u64 255,.iface 92 (.int .i64 1)]:=if_pos h
theorem GN {l:List UInt8} {k acc:Nat} (hk:k < l.length):BH acc (l.drop k) = BH (acc * 8+(l[k].toNat - 48)) (l.drop (k+1)):=by
 rw [List.drop_eq_getElem_cons hk]; try rfl
set_option maxRecDepth 100000 in
set_option maxHeartbeats 8000000 in
theorem Cx (l:List UInt8) (w:World) (h1:1≤l.length) (h4:l.length≤3) (ho:∀ c ∈ l,Ai c = true) :
  Calls Tryd.prog 42 #[.string ⟨l.toArray⟩,.int .i64 8,.int .i64 8] w fun e w'=>e = .returned (Fh l)∧Below w.heap.size w w':=by
 have hne:l.isEmpty = false:=by
  cases l with
  | nil=>simp at h1
  | cons c l=>rfl
 have hl1:l.length≤3:=h4;have HO:=hid ho;clear h4 ho
 go_enter Tryd.func42,Tryd.ntmps42
 go_wp2_with (first | ((with_reducible refine Dc ?_); refine A6 _ (by rfl) _ 9 27 5 rfl Tryd.underlying9 Tryd.underlying27 Tryd.underlying5 l rfl (by omega) ?_; intro vb wb hvb hbb) | (refine Al _ rfl _ 27 5 rfl Tryd.underlying27 _ _ _ rfl (by assumption) ?_) | fail)
 go_loop [12,13,101] (fun u n i=>u = .bool false∧∃ k m:Nat,k≤l.length∧m+1≤8 ^ k∧m≤255∧n = .int .u64 (m:Int)∧i = .int .i64 (k:Int)∧BH 0 l = BH m (l.drop k)) (fun _ _ i=>l.length - (Go.RowKit.intOf i).toNat)
 case atStart=>exact ⟨rfl,0,0,Nat.zero_le _,by simp,by omega,rfl,rfl,rfl⟩
 case round=>
  obtain ⟨rfl,k,m,hk,hm,hm2,rfl,rfl,hx⟩:=hrel;have HX:=hid hx;clear hx;obtain ⟨ao,cp,rfl⟩:=hvb.slice
  have hkI:(k:Int)≤3:=by omega
  by_cases hlt:k < l.length
  ·have hk4:k < l.length:=hlt
   have hkl:(k:Int).toNat < l.length:=by omega
   have hge:l[(k:Int).toNat]'hkl = l[k]:=by simp
   have hst:=GN (acc:=m) hk4
   have hm3:m≤63:=by have:=Nat.pow_le_pow_right (show 0 < 8 by omega) (show k≤2 by omega); omega
   have hcu:¬ (2305843009213693952:Int)≤(m:Int):=by omega
   have hmm:m * 8+8≤8 ^ (k+1):=by rw [Nat.pow_succ]; omega
   have HM:=hid hmm;have hoc:=HO.out l[k] (List.getElem_mem hk4);clear hmm;generalize hc:l[k] = c at hst hge hoc;unfold Ai at hoc;simp at hoc;obtain ⟨d1,d2⟩:=hoc;have bc:=Ao c;have HST:=hid hst
   have e1:((c.toNat:Int) == 95) = false:=by simp; omega
   have e2:(48:Int)≤c.toNat:=by omega
   have e3:(c.toNat:Int)≤57:=by omega
   have e4:¬ (8:Int)≤(c.toNat:Int) - 48:=by omega
   clear hst
   by_cases hbig:255 < m * 8+(c.toNat - 48)
   ·have hkk:k+1 = l.length:=by
     have:¬ k+1 < l.length:=by
      intro h;have:=Nat.pow_le_pow_right (show 0 < 8 by omega) (show k≤1 by omega);omega
     omega
    have HF:=hid (DJ (l:=l) (by rw [HX.out,HST.out,List.drop_of_length_le (by omega)]; exact hbig))
    have e5:(255:Int) < (m:Int) * 8+((c.toNat:Int) - 48):=by omega
    clear hkk hbig
    go_wp2_with (first | ((with_reducible refine Ay ?_); refine Ad _ rfl _ _ 27 5 rfl Tryd.underlying27 Ab _ _ _ rfl hvb _ (k:Int) rfl (by omega) hkl ?_; intro ad1 hc1; rw [hge] at hc1) | fail)
    go_ret2
    exact ⟨by rw [HF.out]; try rfl,hbb⟩
   ·have e5:¬ (255:Int) < (m:Int) * 8+((c.toNat:Int) - 48):=by omega
    have hb255:m * 8+(c.toNat - 48)≤255:=by omega
    have HB:=hid hb255;clear hbig hb255
    go_wp2_with (first | ((with_reducible refine Ay ?_); refine Ad _ rfl _ _ 27 5 rfl Tryd.underlying27 Ab _ _ _ rfl hvb _ (k:Int) rfl (by omega) hkl ?_; intro ad1 hc1; rw [hge] at hc1) | fail)
    go_round
    case rel=>exact ⟨rfl,k+1,m * 8+(c.toNat - 48),by omega,by have:=HM.out; omega,HB.out,by go_num,by go_num,by rw [HX.out,HST.out]⟩
    case measure=>simp [Go.RowKit.intOf]; omega
  ·have hk4:k = l.length:=by omega
   have HF:Hid (Fh l = .tuple #[.int .u64 (m:Int),.nilIface]):=hid (DI (by rw [HX.out,List.drop_of_length_le (by omega)]; try rfl) hm2);clear hk4
   go_wp2_with fail
   go_ret2
   exact ⟨by rw [HF.out]; try rfl,hbb⟩
set_option maxRecDepth 100000 in
set_option maxHeartbeats 2000000 in
theorem Ef (fn s:ByteArray) (w:World) (hlim:s.size≤281474976710656) (hv:ErrVar 4 w) :
  Calls Tryd.prog 52 #[.string fn,.string s] w fun e w'=>∃ N,e = .returned (.pointer (some ⟨N,0,none⟩))∧Below w.heap.size w w':=by
 obtain ⟨te,pe,hv⟩:=hv;have hG:4 < w.heap.size:=Lib.lt_of_cell hv;have hvd:w.drew.cell? ⟨4,0,none⟩ = some (.iface te pe):=hv
 go_enter Tryd.func52,Tryd.ntmps52
 go_wp2
 go_region_with (
   go_at_call 60
   refine (E2 s _ hlim).mono ?_;rintro e w2 ⟨rfl,hbel⟩
   have hv2:w2.cell? ⟨4,0,none⟩ = some (.iface te pe):=(hbel.cell (show (⟨4,0,none⟩:Addr).block < w.drew.heap.size from hG)).trans hvd)
 all_goals (
  go_wp2
  go_ret
  have hs2:w.heap.size≤w2.heap.size:=hbel.size
  exact ⟨_,rfl,((Below.drew (Below.refl _ w)).trans hbel).alloc hs2 _⟩)
set_option maxRecDepth 100000 in
set_option maxHeartbeats 2000000 in
theorem E9 (fn s:ByteArray) (base bs:Int) (w:World) (hlim:s.size≤281474976710656) (hv:ErrVar 4 w) :
  Calls Tryd.prog 43 #[.string fn,.string s,.int .i64 base,.int .i64 bs,.iface 92 (.int .i64 1)] w fun e w'=>∃ N,e = .returned (.iface 94 (.pointer (some ⟨N,0,none⟩)))∧Below w.heap.size w w':=by
 have heq1:∀ W,(binOp .eql 36 (.iface 92 (.int .i64 1)) (.iface 92 (.int .i64 2))).run Tryd.prog W = .ok (.bool false) W:=fun W=>Lib.run_eql_iface_int W 1 2 Tryd.underlying36 (by kernel_rfl) Tryd.underlying92;have heq2:∀ W,(binOp .eql 36 (.iface 92 (.int .i64 1)) (.iface 92 (.int .i64 1))).run Tryd.prog W = .ok (.bool true) W:=fun W=>Lib.run_eql_iface_int W 1 1 Tryd.underlying36 (by kernel_rfl) Tryd.underlying92
 go_enter Tryd.func43,Tryd.ntmps43
 go_wp2_with (go_at_call 52; refine (Ef fn s _ hlim hv).mono ?_; rintro e w2 ⟨N,rfl,hb⟩)
 go_ret
 exact ⟨N,rfl,hb⟩
set_option maxRecDepth 100000 in
theorem EB (l:List UInt8) (n:Nat) (w:World) (h1:1≤l.length) (h4:l.length≤3) (ho:∀ c ∈ l,Ai c = true) (hn:BH 0 l = n) (hle:n≤255) :
  Calls Tryd.prog 25 #[.string ⟨l.toArray⟩,.int .i64 8,.int .i64 8] w fun e w'=>e = .returned (.tuple #[.int .u64 (n:Int),.nilIface])∧Below w.heap.size w w':=by
 have HP:=hid (Cx l w h1 h4 ho);rw [DI hn hle] at HP
 go_enter Tryd.func25,Tryd.ntmps25
 go_wp2_with (first | (go_at_call 42; refine (Calls.mono HP.out ?_); rintro e w1 ⟨rfl,hb1⟩) | fail)
 go_ret2
 exact ⟨rfl,hb1⟩
set_option maxRecDepth 100000 in
theorem EC (l:List UInt8) (w:World) (h1:1≤l.length) (h4:l.length≤3) (ho:∀ c ∈ l,Ai c = true) (hn:255 < BH 0 l) (hv:ErrVar 4 w) :
  Calls Tryd.prog 25 #[.string ⟨l.toArray⟩,.int .i64 8,.int .i64 8] w fun e w'=>(∃ n t x,e = .returned (.tuple #[.int .u64 n,.iface t x]))∧Below w.heap.size w w':=by
 have HP:=hid (Cx l w h1 h4 ho);rw [DJ hn] at HP
 have hsz:(⟨l.toArray⟩:ByteArray).size≤281474976710656:=by rw [Am]; omega
 go_enter Tryd.func25,Tryd.ntmps25
 go_wp2_with (first | (go_at_call 42; refine (Calls.mono HP.out ?_); rintro e w1 ⟨rfl,hb1⟩; have hv1:=hv.below hb1) | (go_at_call 43; refine (E9 _ _ _ _ _ hsz hv1).mono ?_; rintro e w2 ⟨N,rfl,hb2⟩) | fail)
 go_ret2
 exact ⟨⟨_,_,_,rfl⟩,Aa hb1 hb2⟩
end
section
open Go.ChangeShapes Go.WideShapes Go.ChangeAt Go.RowKit
theorem GD:∀ n:Int,0≤n→n < 2 ^ 31→IntKind.i32.wrap n = n:=fun n h0 h1=>IntWalk.i32_in n ⟨by omega,by omega⟩
set_option maxRecDepth 100000 in
theorem Cj (v:Nat) (w:World):Calls Tryd.prog 26 #[.int .i32 (v:Int)] w fun e w'=>e = .returned (.bool (Bp v))∧w = w':=by
 have h1:decide ((55296:Int)≤(v:Int)) = decide (55296≤v):=by congr 1; simp; omega
 have h2:decide ((v:Int) < 57344) = decide (v < 57344):=by congr 1; simp; omega
 have HS:Hid (Bp v = (decide ((55296:Int)≤(v:Int)) && decide ((v:Int) < 57344))):=hid (by rw [h1,h2]; try rfl);clear h1 h2
 rcases ha:decide ((55296:Int)≤(v:Int)) with _ | _
 ·have HS2:Hid (Bp v = false):=hid (by rw [HS.out,ha]; try rfl)
  go_enter Tryd.func26,Tryd.ntmps26
  go_wp2
  go_ret
  exact ⟨by rw [HS2.out]; try rfl,rfl⟩
 ·rcases hb:decide ((v:Int) < 57344) with _ | _
  all_goals
   have HS2:=HS.out;rw [ha,hb] at HS2;replace HS2:=hid HS2
   go_enter Tryd.func26,Tryd.ntmps26
   go_wp2
   go_ret
   exact ⟨by rw [HS2.out]; try rfl,rfl⟩
theorem or_pair (x y:Int) (hx₀:0≤x) (hx₁:x < 1024) (hy₀:0≤y) (hy₁:y < 1024):bits .or .i32 (x * 1024) y = x * 1024+y:=
 bits_join .i32 31 (by decide) GD 10 (x * 1024) y (by omega) (by omega) (by omega) hy₀ (by omega) (by omega)
def Eh (v u:Nat):Bool:=decide (55296≤v) && decide (v < 56320) && decide (56320≤u) && decide (u < 57344)
theorem FN (v u:Nat):AU v u = if Eh v u then (v - 55296) * 1024+(u - 56320)+65536 else 65533:=by
 unfold AU Eh;simp [Bool.and_eq_true,and_assoc]
set_option maxRecDepth 100000 in
set_option maxHeartbeats 1000000 in
theorem Da (v u:Nat) (w:World):Calls Tryd.prog 27 #[.int .i32 (v:Int),.int .i32 (u:Int)] w fun e w'=>e = .returned (.int .i32 (AU v u:Int))∧w = w':=by
 by_cases h:Eh v u = true
 ·have HR:=hid (FN v u);rw [if_pos h] at HR;unfold Eh at h;simp only [Bool.and_eq_true,decide_eq_true_eq] at h;obtain ⟨⟨⟨a1,a2⟩,a3⟩,a4⟩:=h
  have b1:decide ((55296:Int)≤(v:Int)) = true:=by simp; omega
  have b2:decide ((v:Int) < 56320) = true:=by simp; omega
  have b3:decide ((56320:Int)≤(u:Int)) = true:=by simp; omega
  have b4:decide ((u:Int) < 57344) = true:=by simp; omega
  have HO:=hid (or_pair ((v:Int) - 55296) ((u:Int) - 56320) (by omega) (by omega) (by omega) (by omega));have H1:=hid a1;have H2:=hid a2;have H3:=hid a3;have H4:=hid a4;clear a1 a2 a3 a4
  go_enter Tryd.func27,Tryd.ntmps27
  go_wp2
  go_ret
  have h1:=H1.out;have h2:=H2.out;have h3:=H3.out;have h4:=H4.out
  have e1:wrap32 ((v:Int) - 55296) = (v:Int) - 55296:=by unfold wrap32; omega
  have e2:wrap32 ((u:Int) - 56320) = (u:Int) - 56320:=by unfold wrap32; omega
  have e3:wrap32 (((v:Int) - 55296) * 1024) = ((v:Int) - 55296) * 1024:=by unfold wrap32; omega
  refine ⟨Gq ?_,rfl⟩
  show wrap32 (bits .or .i32 (wrap32 (wrap32 ((v:Int) - 55296) * 1024)) (wrap32 ((u:Int) - 56320))+65536) = _
  rw [e1,e2,e3,HO.out,HR.out];unfold wrap32;omega
 ·have HR:=hid (FN v u);rw [if_neg h] at HR
  have hcs:decide ((55296:Int)≤(v:Int)) = false∨decide ((55296:Int)≤(v:Int)) = true∧(decide ((v:Int) < 56320) = false∨decide ((v:Int) < 56320) = true∧(decide ((56320:Int)≤(u:Int)) = false∨decide ((56320:Int)≤(u:Int)) = true∧decide ((u:Int) < 57344) = false)):=by
   unfold Eh at h;simp only [Bool.and_eq_true,decide_eq_true_eq] at h;simp only [decide_eq_false_iff_not,decide_eq_true_eq];omega
  clear h
  rcases hcs with b1 | ⟨b1,b2 | ⟨b2,b3 | ⟨b3,b4⟩⟩⟩
  all_goals
   go_enter Tryd.func27,Tryd.ntmps27
   go_wp2
   go_ret
   exact ⟨Gq (by rw [HR.out]; try rfl),rfl⟩
end
section
open Go.ChangeShapes Go.WideShapes Go.ChangeAt Go.RowKit
theorem FG {l:List UInt8} {c n:Nat} (h:An l = some (c,n)) (hc:c < 128):∃ b l2,l = b::l2∧b.toNat = c∧n = 1:=by
 cases l with
 | nil=>cases h
 | cons b l2=>
  by_cases h1:b.toNat < 128
  ·rw [Af,if_pos h1] at h; cases h; exact ⟨b,l2,rfl,rfl,rfl⟩
  ·rw [Af,if_neg h1] at h
   rcases hh:Ar b.toNat with _ | ⟨k,least,first⟩
   ·rw [hh] at h; cases h
   ·rw [hh] at h;simp only at h;have hk:=BA hh
    rcases ht:Ae k first l2 with _ | v'
    ·rw [ht] at h; cases h
    ·rw [ht] at h;simp only at h
     split at h
     ·rename_i hok
      cases h;unfold Co at hok;simp at hok;omega
     ·cases h
theorem u8_one {l:List UInt8} {c n:Nat} (h:An l = some (c,n)) (hn:n = 1):c < 128:=by
 cases l with
 | nil=>cases h
 | cons b l2=>
  by_cases h1:b.toNat < 128
  ·rw [Af,if_pos h1] at h; cases h; exact h1
  ·rw [Af,if_neg h1] at h
   rcases hh:Ar b.toNat with _ | ⟨k,least,first⟩
   ·rw [hh] at h; cases h
   ·rw [hh] at h;simp only at h;have hk:=BA hh
    rcases ht:Ae k first l2 with _ | v'
    ·rw [ht] at h; cases h
    ·rw [ht] at h;simp only at h
     split at h
     ·cases h; omega
     ·cases h
theorem chr_bad {l:List UInt8} (h:chr l = (65533,1)):An l = none:=by
 rcases hu:An l with _ | ⟨c,n⟩
 ·rfl
 ·have:chr l = (c,n):=by unfold chr; rw [hu]
  rw [this] at h
  injection h with h1 h2
  have:=u8_one hu h2;omega
theorem D0 {c:Nat} (h:c < 55296∨57344≤c∧c≤1114111):Utf8.encode (c:Int) = ⟨(AA c).toArray⟩:=by
 have hv:Utf8.valid (c:Int) = true:=by unfold Utf8.valid; simp; omega
 unfold Utf8.encode AA;simp only [hv,if_true,Int.toNat_natCast]
 repeat' split
 all_goals first | rfl | omega
theorem Dg (c:Nat):1≤(AA c).length:=by
 unfold AA
 split
 ·simp
 ·split
  ·simp
  ·split <;> simp
theorem FZ {w:World} {g:Nat} {ao:Option Addr} {m cp:Nat} {bs:List UInt8} (hv:View w g (.slice ao m cp) bs) (hne:1≤bs.length):∃ ad:Addr,ao = some ad∧∀ j u,(byteCells bs)[j]? = some u→w.cell? (ad.add j) = some u:=by
 obtain ⟨ao',cap,he,h3,h4,hn0,off,h5,h6⟩:=hv
 injection he with e1 e2 e3
 subst e1 e2 e3;refine ⟨⟨g,off,none⟩,h5 (by intro e; rw [e] at hne; simp at hne),fun j u hu=>?_⟩
 have hj:j < bs.length:=by have:=(List.getElem?_eq_some_iff.1 hu).1; simpa [byteCells] using this
 rw [Addr.add_lit,h6 j hj,←hu];simp [byteCells,hj]
theorem View.keptB {w w':World} {g B:Nat} {v:Value} {bs:List UInt8} (h:View w g v bs) (hb:Below B w w') (hg:g < B):View w' g v bs:=h.kept (hb.block g hg)
theorem chr_u8 {l:List UInt8} {c n:Nat} (h:chr l = (c,n)) (hc:¬ (c = 65533∧n = 1)):An l = some (c,n):=by
 unfold chr at h
 rcases hu:An l with _ | ⟨c',n'⟩
 ·rw [hu] at h; simp only [Prod.mk.injEq] at h; exact absurd ⟨h.1.symm,h.2.symm⟩ hc
 ·rw [hu] at h; simp only [Prod.mk.injEq] at h; rw [h.1,h.2]
theorem Ho {c:UInt8} (h:Aq c = true):AH c.toNat < 16:=by
 unfold Aq at h;simp at h
 have hl:(48≤c.toNat∧c.toNat≤57)∨97≤A4 c.toNat∧A4 c.toNat≤102:=by
  unfold A4
  rcases h with h | h | h
  ·exact .inl h
  ·rw [if_pos (by omega)]; exact .inr h
  ·rw [if_neg (by omega)]; exact .inr (by omega)
 unfold AH
 split
 ·omega
 ·rw [if_pos (by omega)]; omega
theorem EY:∀ (l:List UInt8) (acc:Nat),(∀ c ∈ l,Aq c = true)→∃ v,As acc l = some v
 | [],acc,_=>⟨acc,rfl⟩
 | c::l,acc,h=>by
  unfold As;rw [if_pos (Ho (h c (by simp)))];exact EY l _ (fun d hd=>h d (by simp [hd]))
theorem BV (v:Nat):(AA v).length≤4:=Dh v
theorem D8 {d:Nat} {b c:UInt8} {l:List UInt8} (h:l.length < d):BI d (b::c::l) = none:=by unfold BI; rw [if_pos (by simp; omega)]
theorem Cs {d:Nat} {b c:UInt8} {l:List UInt8} (h:¬ l.length < d):BI d (b::c::l) = (match As 0 (l.take d) with
 | none=>none
 | some v=>if 1114111 < v then none else if Bp v = false then some (AA v,d+2)
  else if (b::c::l).length < d+8 then none
  else match As 0 (((b::c::l).drop (d+4)).take 4) with
  | none=>none
  | some u=>if ((b::c::l).getD (d+2) 0).toNat = 92∧((b::c::l).getD (d+3) 0).toNat = 117∧AU v u≠65533 then some (AA (AU v u),d+8) else none):=by
 unfold BI; rw [if_neg (by simp; omega)]; rfl
theorem FF {d:Nat} {b c:UInt8} {l:List UInt8} (h:¬ l.length < d) (hx:As 0 (l.take d) = none):BI d (b::c::l) = none:=by rw [Cs h,hx]
theorem FE {d v:Nat} {b c:UInt8} {l:List UInt8} (h:¬ l.length < d) (hx:As 0 (l.take d) = some v) (hv:1114111 < v):BI d (b::c::l) = none:=by rw [Cs h,hx]; simp only; rw [if_pos hv]
theorem FD {d v:Nat} {b c:UInt8} {l:List UInt8} (h:¬ l.length < d) (hx:As 0 (l.take d) = some v) (hv:¬ 1114111 < v) (hs:Bp v = false):BI d (b::c::l) = some (AA v,d+2):=by
 rw [Cs h,hx]; simp only; rw [if_neg hv,if_pos hs]
theorem DF {d v:Nat} {b c:UInt8} {l:List UInt8} (h:¬ l.length < d) (hx:As 0 (l.take d) = some v) (hs:Bp v = true) (h2:(l.drop d).length < 6):BI d (b::c::l) = none:=by
 rw [Cs h,hx]; simp only
 split
 ·rfl
 ·rw [if_neg (by rw [hs]; decide),if_pos (by simp at h2 ⊢; omega)]
theorem G8 {v:Nat} (hs:Bp v = true):55296≤v∧v < 57344:=by unfold Bp at hs; simpa using hs
theorem CB {d v:Nat} {b c e f:UInt8} {l l5:List UInt8} (h:¬ l.length < d) (hx:As 0 (l.take d) = some v) (hs:Bp v = true) (h4:l.drop d = e::f::l5) (h5:4≤l5.length):BI d (b::c::l) = (match As 0 (l5.take 4) with
  | none=>none
  | some u=>if e.toNat = 92∧f.toNat = 117∧AU v u≠65533 then some (AA (AU v u),d+8) else none):=by
 have hl:l.length = l5.length+d+2:=by have:=congrArg List.length h4; simp at this; omega
 have hd:(b::c::l).drop (d+4) = l5:=by
  show l.drop (d+2) = l5
  rw [←List.drop_drop,h4]; try rfl
 have he:(b::c::l).getD (d+2) 0 = e:=by
  have:=congrArg (fun x=>x.getD 0 0) h4
  simpa [List.getD_eq_getElem?_getD] using this
 have hf:(b::c::l).getD (d+3) 0 = f:=by
  have:=congrArg (fun x=>x.getD 1 0) h4
  simpa [List.getD_eq_getElem?_getD] using this
 have hv:=G8 hs;rw [Cs h,hx]; simp only; rw [if_neg (by omega),if_neg (by rw [hs]; decide),if_neg (by simp; omega),hd,he,hf]
theorem Eg (v:Nat):AU v 0 = 65533:=by unfold AU; rw [if_neg (by omega)]
theorem FM {v u:Nat} (h:AU v u≠65533):57344≤AU v u∧AU v u≤1114111:=by
 unfold AU at h ⊢
 split
 ·omega
 ·rename_i hn; rw [if_neg hn] at h; exact absurd rfl h
theorem FY {w:World} {g B:Nat} {v:Value} {bs:List UInt8} (hv:View w g v bs) (k k':IntKind) (n:Nat) (hn:n≤bs.length):∃ v',(∀ W,(Instr.slice 27 v none (some (.int k (n:Int))) (some (.int k' (n:Int)))).run Tryd.prog W = .ok v' W)∧OutV w B 5 v' (bs.take n)∧(bs.take n≠[]→∀ j,v'.ownBlock = some j→j = g):=by
 obtain ⟨ao,cap,rfl,h3,h4,hn0,off,h5,h6⟩:=hv;obtain ⟨inf,hi1,hz,hz1,hz2⟩:=info_parts Ab
 have hlen:(bs.take n).length = n:=by simp; omega
 refine ⟨.slice (if n = 0 then ao else ao.map (·.add (0 * 1))) n n,fun W=>?_,?_,fun hne j hj=>?_⟩
 ·have hs:Tryd.prog.underlying 27 = some (.slice (Tryd.prog.elem 27)):=by simp [Program.elem,Tryd.underlying27]
  have he:Tryd.prog.elem 27 = 5:=by simp [Program.elem,Tryd.underlying27]
  have hsz:(sizeOf (Tryd.prog.elem 27)).run Tryd.prog W = .ok 1 W:=by simp [sizeOf,typeInfo,he,hi1,hz1]
  rw [run_slice_hm W 27 ao bs.length cap hs k k' (n:Int) (n:Int) (by omega) (by omega) (by omega),hsz]
  try rfl
 ·by_cases h0:n = 0
  ·subst h0;rw [if_pos rfl]
   cases ao with
   | none=>exact .inl (OwnB.nil w B 5)
   | some ad=>exact .inr ⟨ad,rfl,fun j u hu=>by simp [byteCells] at hu⟩
  ·rw [if_neg h0]
   have hb:bs≠[]:=by intro e; subst e; simp at hn; exact h0 hn
   have:=h5 hb;subst this;refine .inr ⟨⟨g,off,none⟩,by rw [hlen]; simp [Addr.add_lit],fun j u hu=>?_⟩
   have hj:j < (bs.take n).length:=by have:=(List.getElem?_eq_some_iff.1 hu).1; simpa [byteCells] using this
   rw [hlen] at hj;rw [Addr.add_lit,h6 j (by omega),←hu];simp [byteCells,hj,List.getElem?_eq_getElem (show j < bs.length by omega)]
 ·have h0:n≠0:=by intro e; subst e; simp at hne
  have hb:bs≠[]:=by intro e; subst e; simp at hne
  rw [if_neg h0,h5 hb] at hj
  simpa [Value.ownBlock,Addr.add_lit] using hj.symm
def H6 (p:Nat) (v:Value) (bs:List UInt8):Prop:=bs≠[]→∀ k,v.ownBlock = some k→k≠p
theorem OutV.grown {w w':World} {B p:Nat} {v:Value} {bs:List UInt8} (h:OutV w B 5 v bs) (hg:w.grownBy w' (some p)) (hp:p < B) (ha:H6 p v bs):OutV w' B 5 v bs:=by
 rcases h with h | ⟨ad,rfl,hc⟩
 ·exact .inl (World.ownsRow.kept h hg (.inr (fun e=>by have:=(World.ownsRow.lt h p e).1; omega)))
 ·refine .inr ⟨ad,rfl,fun j u hu=>?_⟩
  have hne:bs≠[]:=by intro e; subst e; simp [byteCells] at hu
  have hap:=ha hne ad.block rfl;have hlt:=World.block_lt_of_cell? w _ (hc j u hu);have e:w'.heap[(ad.add j).block]? = w.heap[(ad.add j).block]?:=hg.block _ hlt (by rw [GX]; intro e; injection e with e; exact hap e);rw [World.cell?_of_block (w:=w) (a:=ad.add j) e];exact hc j u hu
theorem OwnB.apart {w:World} {B p:Nat} {v:Value} {bs:List UInt8} (h:OwnB w B 5 v bs) (hp:p < B):H6 p v bs:=fun _ k hk e=>by have:=(World.ownsRow.lt h k hk).1; omega
def StrRes (B p g:Nat) (bs:List UInt8) (vr ve vst vo:Value) (s:DT) (n:Nat) (w:World) (o:Option (List UInt8 × Nat)) (e:Ending) (w':World):Prop:=match o with
 | some (t,m)=>e = .returned (.tuple #[.string ⟨t.toArray⟩,.nilIface])∧∃ vi',DW B p g bs vr ve vst vo vi' { s with k:=goT bs s.k (n+1 - m) } w'∧w.grownBy w' (some p)
 | none=>(∃ te x,e = .returned (.tuple #[.string ⟨#[]⟩,.iface te x]))∧Below w.heap.size w w'
theorem StrRes.bad {B p g:Nat} {bs:List UInt8} {vr ve vst vo:Value} {s:DT} {n:Nat} {w w':World} {o:Option (List UInt8 × Nat)} (h:o = none) (te:TypeId) (x:Value) (hb:Below w.heap.size w w'):StrRes B p g bs vr ve vst vo s n w o (.returned (.tuple #[.string ⟨#[]⟩,.iface te x])) w':=by
 rw [h]; exact ⟨⟨te,x,rfl⟩,hb⟩
theorem rowZ {w:World} {q:Nat} {cs:Array Value} {t:TypeId} (h:w.heap[q]? = some (.cells cs t (0,0))):RowAt w q cs.toList:=fun j u hu=>by
 have hj:cs[j]? = some u:=by simpa using hu
 exact ⟨by rw [cell_of_row w q j cs t (0,0) h]; exact hj,by simp [World.frozen?,h]⟩
theorem Hi:CG Tryd.prog 27:=fun w=>by simp [isAgg,Sem.run_bind,go_sem]
theorem CN:CG Tryd.prog 5:=fun w=>by simp [isAgg,Sem.run_bind,go_sem]
theorem CD:CG Tryd.prog 36:=fun w=>by simp [isAgg,Sem.run_bind,go_sem]
theorem AX:Tryd.prog.follows .mixedOrders = true:=by kernel_rfl
theorem Gz:Fw Tryd.prog 54 5 10:=fun p w=>by simp [go_sem,Instr.fieldAt]
section
variable {N:Nat} {D:List Deferred} {a:Act} {l:List (Nat × Value)} {L rest:List Oper} {Q:Exit→Act→World→Prop} {w:World} {d:Nat} {ty:TypeId} {pos:String} {af:Array Edge}
theorem BG {x i j:Operand} {g m n:Nat} {mi ni:Int} {v:Value} {bs ys:List UInt8} {k k':IntKind} (H:Has N D a l) (hx:ev l x = some v) (hi:ev l i = some (.int k mi)) (hj:ev l j = some (.int k' ni)) (hv:View w g v bs) (hm:mi = (m:Int)) (hn:ni = (n:Int)) (hmn:m≤n) (hl:n≤bs.length) (he:(bs.drop m).take (n - m) = ys) (hd:Nat.blt d N = true)
  (h:∀ a v',Has N D a ((d,v')::l)→View w g v' ys→wpList Tryd.prog L.toArray Q rest a w):wpList Tryd.prog L.toArray Q (⟨some d,.slice 27 x (some i) (some j) none,ty,pos,af,none⟩::rest) a w:=by
 subst hm hn he;exact C3 w (by rfl) x i j 27 5 rfl Tryd.underlying27 Ab g v bs (H.ev hx) hv k k' _ _ (H.ev hi) (H.ev hj) (by omega) (by omega) (by omega) fun v' hv'=>h _ v' (H.put hd) hv'
theorem Cf {x i:Operand} {g m:Nat} {mi:Int} {v:Value} {bs ys:List UInt8} {k:IntKind} (H:Has N D a l) (hx:ev l x = some v) (hi:ev l i = some (.int k mi)) (hv:View w g v bs) (hm:mi = (m:Int)) (hl:m≤bs.length) (he:bs.drop m = ys) (hd:Nat.blt d N = true)
  (h:∀ a v',Has N D a ((d,v')::l)→View w g v' ys→wpList Tryd.prog L.toArray Q rest a w):wpList Tryd.prog L.toArray Q (⟨some d,.slice 27 x (some i) none none,ty,pos,af,none⟩::rest) a w:=by
 subst hm he;exact AD w (by rfl) x i 27 5 rfl Tryd.underlying27 Ab g v bs (H.ev hx) hv k _ (H.ev hi) (by omega) (by omega) fun v' hv'=>h _ v' (H.put hd) hv'
theorem BF {x:Operand} {g:Nat} {v:Value} {bs:List UInt8} (H:Has N D a l) (hx:ev l x = some v) (hv:View w g v bs) (hd:Nat.blt d N = true)
  (h:∀ a,Has N D a ((d,.string ⟨bs.toArray⟩)::l)→wpList Tryd.prog L.toArray Q rest a w):wpList Tryd.prog L.toArray Q (⟨some d,.convert 27 9 x,ty,pos,af,none⟩::rest) a w:=
 Bf w (by rfl) x 27 9 5 rfl Tryd.underlying27 Tryd.underlying5 Tryd.underlying9 g v bs (H.ev hx) hv (h _ (H.put hd))
theorem GC {x:Operand} {B:Nat} {v:Value} {bs:List UInt8} (H:Has N D a l) (hx:ev l x = some v) (hv:OutV w B 5 v bs) (hd:Nat.blt d N = true)
  (h:∀ a,Has N D a ((d,.string ⟨bs.toArray⟩)::l)→wpList Tryd.prog L.toArray Q rest a w):wpList Tryd.prog L.toArray Q (⟨some d,.convert 27 9 x,ty,pos,af,none⟩::rest) a w:=
 C2 w (by rfl) x 27 9 5 rfl Tryd.underlying27 Tryd.underlying5 Tryd.underlying9 B v bs (H.ev hx) hv (h _ (H.put hd))
theorem Cg {x:Operand} {c:Int} {bs:List UInt8} (H:Has N D a l) (hx:ev l x = some (.int .i32 c)) (he:Utf8.encode c = ⟨bs.toArray⟩) (hd:Nat.blt d N = true)
  (h:∀ a,Has N D a ((d,.string ⟨bs.toArray⟩)::l)→wpList Tryd.prog L.toArray Q rest a w):wpList Tryd.prog L.toArray Q (⟨some d,.convert 21 9 x,ty,pos,af,none⟩::rest) a w:=
 Ce H hd (by
  have h1:=H.ev hx
  have h2:(convert 21 9 (.int .i32 c)).run Tryd.prog w = .ok (.string ⟨bs.toArray⟩) w:=by rw [←he]; simp [convert,run_underlying Tryd.underlying21,run_underlying Tryd.underlying9,Sem.run_bind,go_sem,Conv.intToString]
  simp only [execOp,h1]
  simp [h2,Result.andThen]) h
theorem Gp {P:Program} {src dst:TypeId} {q q':IntKind} {n:Int} (hs:P.underlying src = some (.int q)) (hds:P.underlying dst = some (.int q')) (hn:q'.wrap n = n) (w:World):(convert src dst (.int q n)).run P w = .ok (.int q' n) w:=by simp [convert,run_underlying hs,run_underlying hds,hn,Conv.intToInt,Sem.run_bind]
theorem D3 {src dst:TypeId} {q q':IntKind} {x:Operand} {n:Int} (hs:Tryd.prog.underlying src = some (.int q)) (hds:Tryd.prog.underlying dst = some (.int q')) (H:Has N D a l) (hx:ev l x = some (.int q n)) (hn:q'.wrap n = n) (hd:Nat.blt d N = true)
  (h:∀ a,Has N D a ((d,.int q' n)::l)→wpList Tryd.prog L.toArray Q rest a w):wpList Tryd.prog L.toArray Q (⟨some d,.convert src dst x,ty,pos,af,none⟩::rest) a w:=
 Ce H hd (by
  have h1:=H.ev hx;simp only [execOp,h1]
  simp [Gp hs hds hn w,Result.andThen]) h
theorem D4 {n:Int} (h0:0≤n) (h1:n < 2147483648):IntKind.i32.wrap n = n:=IntWalk.i32_in n ⟨by omega,by omega⟩
theorem w_u8 {n:Int} (h0:0≤n) (h1:n < 256):IntKind.u8.wrap n = n:=IntWalk.u8_in n ⟨by omega,by omega⟩
theorem BZ {x:Operand} {c:Int} (H:Has N D a l) (hx:ev l x = some (.int .u8 c)) (hd:Nat.blt d N = true)
  (h:∀ w' q,RowAt w' q [.int .u8 c]→Below w.heap.size w w'→∀ a,Has N D a ((d,.slice (some ⟨q,0,none⟩) 1 1)::l)→wpList Tryd.prog L.toArray Q rest a w'):wpList Tryd.prog L.toArray Q (⟨some d,.buildSlice 27 1 #[(0,x)],ty,pos,af,none⟩::rest) a w:=
 Ce H hd (w':=w.alloc (.cells #[.int .u8 c] 5)) (v:=.slice (some ⟨w.heap.size,0,none⟩) 1 1) (r_bs1 Tryd.underlying27 Ab H hx) (h _ _ (rowZ (heap_alloc_new w _)) ((Below.refl _ w).alloc (Nat.le_refl _) _))
theorem Fz {x y:Operand} {B m c:Nat} {v:Value} {bs ys:List UInt8} {ad:Addr} (H:Has N D a l) (hx:ev l x = some v) (hout:OutV w B 5 v bs) (hy:ev l y = some (.slice (some ad) m c)) (hl:ys.length = m) (hm:1≤m) (hc:∀ j u,(byteCells ys)[j]? = some u→w.cell? (ad.add j) = some u) (hB:B≤w.heap.size) (hlen:bs.length+m≤140737488355328) (hd:Nat.blt d N = true)
  (h:∀ v' w',OwnB w' B 5 v' (bs++ys)→Below B w w'→∀ a,Has N D a ((d,v')::l)→wpList Tryd.prog L.toArray Q rest a w') :
  wpList Tryd.prog L.toArray Q (⟨some d,.call { callee:=.builtin .append,args:=#[x,y],argTypes:=#[27,27] },27,pos,af,none⟩::rest) a w:=by
 obtain ⟨v',w',hr,h2,h3⟩:=Ed (P:=Tryd.prog) w 27 27 5 Tryd.underlying27 Ab B hB v bs hout ad m c ys hl hm hc hlen;refine wpList_plain rfl fun K hK=>?_;have e1:=H.ev hx;have e2:=H.ev hy;unfold Oper.wp execOp;simp only [resolve,invoke,builtin,Sem.run_bind,Sem.run_pure,Result.andThen_ok,List.map_toArray,List.map_cons,List.map_nil,e1,e2,hr];exact hK _ _ (h v' w' h2 h3 _ (H.put hd))
theorem BX {x y:Operand} {B q:Nat} {v:Value} {bs:List UInt8} (c:UInt8) (H:Has N D a l) (hx:ev l x = some v) (hout:OutV w B 5 v bs) (hy:ev l y = some (.slice (some ⟨q,0,none⟩) 1 1)) (hr:RowAt w q [.int .u8 (c.toNat:Int)]) (hB:B≤w.heap.size) (hlen:bs.length+1≤140737488355328) (hd:Nat.blt d N = true)
  (h:∀ v' w',OwnB w' B 5 v' (bs++[c])→Below B w w'→∀ a,Has N D a ((d,v')::l)→wpList Tryd.prog L.toArray Q rest a w') :
  wpList Tryd.prog L.toArray Q (⟨some d,.call { callee:=.builtin .append,args:=#[x,y],argTypes:=#[27,27] },27,pos,af,none⟩::rest) a w:=
 Fz H hx hout hy rfl (Nat.le_refl 1) (fun j u hj=>by
  match j,hj with
  | 0,hj=>
   simp [byteCells] at hj;subst hj;rw [Addr.add_lit]
   exact (hr 0 _ rfl).1) hB hlen hd h
theorem y_outV {x y:Operand} {B g:Nat} {v u:Value} {bs ys:List UInt8} (H:Has N D a l) (hx:ev l x = some v) (hout:OutV w B 5 v bs) (hy:ev l y = some u) (hv:View w g u ys) (hne:1≤ys.length) (hB:B≤w.heap.size) (hlen:bs.length+ys.length≤140737488355328) (hd:Nat.blt d N = true)
  (h:∀ v' w',OwnB w' B 5 v' (bs++ys)→Below B w w'→∀ a,Has N D a ((d,v')::l)→wpList Tryd.prog L.toArray Q rest a w') :
  wpList Tryd.prog L.toArray Q (⟨some d,.call { callee:=.builtin .append,args:=#[x,y],argTypes:=#[27,27] },27,pos,af,none⟩::rest) a w:=by
 obtain ⟨ao,c,rfl⟩:=hv.slice;obtain ⟨ad,rfl,hc⟩:=FZ hv hne;exact Fz H hx hout hy rfl hne hc hB hlen hd h
theorem E3 {x y:Operand} {B:Nat} {v:Value} {bs ys:List UInt8} (H:Has N D a l) (hx:ev l x = some v) (hout:OutV w B 5 v bs) (hy:ev l y = some (.string ⟨ys.toArray⟩)) (hne:1≤ys.length) (hB:B≤w.heap.size) (hlen:bs.length+ys.length≤140737488355328) (hd:Nat.blt d N = true)
  (h:∀ v' w',OwnB w' B 5 v' (bs++ys)→Below B w w'→∀ a,Has N D a ((d,v')::l)→wpList Tryd.prog L.toArray Q rest a w') :
  wpList Tryd.prog L.toArray Q (⟨some d,.call { callee:=.builtin .append,args:=#[x,y],argTypes:=#[27,9] },ty,pos,af,none⟩::rest) a w:=
 Cn w rfl x y 27 9 rfl 5 Tryd.underlying27 Tryd.underlying9 Ab B hB v bs (H.ev hx) hout ys (H.ev hy) hne hlen fun v' w' h1 h2=>h v' w' h1 h2 _ (H.put hd)
theorem Hp:(Tryd.prog.info? 20).map (fun i=>(i.zero,i.size,i.bytes)) = some (some .nilIface,1,16):=by kernel_rfl
theorem AQ {x:Operand} {t:TypeId} {v:Value} (H:Has N D a l) (hx:ev l x = some (.iface t v)) (hd:Nat.blt d N = true)
  (h:∀ w' u,Below w.heap.size w w'→∀ a,Has N D a ((d,u)::l)→wpList Tryd.prog L.toArray Q rest a w'):wpList Tryd.prog L.toArray Q (⟨some d,.buildSlice 72 1 #[(0,x)],ty,pos,af,none⟩::rest) a w:=by
 obtain ⟨inf,hi1,hz,hz1,hz2⟩:∃ i,Tryd.prog.info? 20 = some i∧i.zero = some .nilIface∧i.size = 1∧i.bytes = 16:=by
  have:=Hp
  cases hi:Tryd.prog.info? 20 with
  | none=>rw [hi] at this; cases this
  | some i=>rw [hi] at this; simp at this; exact ⟨i,rfl,this.1,this.2.1,this.2.2⟩
 have h1:=H.ev hx;have:=run_buildSlice (P:=Tryd.prog) w 72 20 1 #[(0,.iface t v)] #[.iface t v] inf .nilIface Tryd.underlying72 hi1 hz (by rw [hz1]; decide) (by rw [hz1]; decide) (by rw [hz1]; kernel_rfl);refine Ce H hd (v:=.slice (some ⟨w.heap.size,0,none⟩) 1 1) (w':=w.alloc (.cells #[.iface t v] 20)) (by simp [execOp,h1,this,Result.andThen]) ?_;exact h _ _ ((Below.refl _ w).alloc (Nat.le_refl _) _)
theorem Bd {P:Program} {t:TypeId} {x:Operand} {v:Value} {ds:TypeDesc} (hu:P.underlying t = some ds) (hds:(match ds with | .interface _=>false | _=>true) = true) (H:Has N D a l) (hx:ev l x = some v) (hd:Nat.blt d N = true)
  (h:∀ a,Has N D a ((d,.iface t v)::l)→wpList P L.toArray Q rest a w):wpList P L.toArray Q (⟨some d,.makeInterface t x,ty,pos,af,none⟩::rest) a w:=
 Ce H hd (by
  have h1:=H.ev hx;simp only [execOp,h1]
  cases ds <;> simp_all [Instr.makeInterface,run_underlying hu,Sem.run_bind,Result.andThen]) h
theorem CH {x:Operand} {v:Value} {b:Bool} (H:Has N D a l) (hx:ev l x = some v) (hb:(v = .nilIface∧b = false)∨(∃ te xe,v = .iface te xe∧b = true)) (hd:Nat.blt d N = true)
  (h:∀ a,Has N D a ((d,.bool b)::l)→wpList Tryd.prog L.toArray Q rest a w):wpList Tryd.prog L.toArray Q (⟨some d,.binOp .neq 36 x (.const .nilIface) 36,ty,pos,af,none⟩::rest) a w:=
 Ce H hd (by
  have h1:=H.ev hx
  rcases hb with ⟨rfl,rfl⟩ | ⟨te,xe,rfl,rfl⟩ <;> (simp only [execOp,h1]; simp [go_sem])) h
variable {P:Program} {S:World→Prop} {dd:Option Tmp} {gd:Option (Nat × Bool)}
theorem AW {t e:TypeId} {x i:Operand} {v v':Value} {k:IntKind} {n:Int} (ht:P.underlying t = some (.slice e)) (H:Has N D a l) (hx:ev l x = some v) (hi:ev l i = some (.int k n)) (hr:∀ W,(Instr.slice t v (some (.int k n)) none none).run P W = .ok v' W) :
  ∀ w,S w→(execOp a.eval ⟨dd,.slice t x (some i) none none,ty,pos,af,gd⟩).run P w = .ok (.value v') w:=fun w _=>by
 have h1:=H.ev hx;have h3:=H.ev hi
 have hs:P.underlying t = some (.slice (P.elem t)):=by simp [Program.elem,ht]
 simp [execOp,h1,h3,run_sliceAt_slice w t _ _ _ _ hs,hr w,Result.andThen]
theorem r_uptoZ {t e:TypeId} {x i:Operand} {v v':Value} {k:IntKind} {n:Int} (ht:P.underlying t = some (.slice e)) (H:Has N D a l) (hx:ev l x = some v) (hi:ev l i = some (.int k n)) (hr:∀ W,(Instr.slice t v none (some (.int k n)) none).run P W = .ok v' W) :
  ∀ w,S w→(execOp a.eval ⟨dd,.slice t x none (some i) none,ty,pos,af,gd⟩).run P w = .ok (.value v') w:=fun w _=>by
 have h1:=H.ev hx;have h3:=H.ev hi
 have hs:P.underlying t = some (.slice (P.elem t)):=by simp [Program.elem,ht]
 simp [execOp,h1,h3,run_sliceAt_slice w t _ _ _ _ hs,hr w,Result.andThen]
theorem r_fullZ {t e:TypeId} {x i j:Operand} {v v':Value} {k k':IntKind} {n m:Int} (ht:P.underlying t = some (.slice e)) (H:Has N D a l) (hx:ev l x = some v) (hi:ev l i = some (.int k n)) (hj:ev l j = some (.int k' m)) (hr:∀ W,(Instr.slice t v none (some (.int k n)) (some (.int k' m))).run P W = .ok v' W) :
  ∀ w,S w→(execOp a.eval ⟨dd,.slice t x none (some i) (some j),ty,pos,af,gd⟩).run P w = .ok (.value v') w:=fun w _=>by
 have h1:=H.ev hx;have h3:=H.ev hi;have h4:=H.ev hj
 have hs:P.underlying t = some (.slice (P.elem t)):=by simp [Program.elem,ht]
 simp [execOp,h1,h3,h4,run_sliceAt_slice w t _ _ _ _ hs,hr w,Result.andThen]
theorem He {t e:TypeId} {x:Operand} {ao:Option Addr} {n c:Nat} (ht:P.underlying t = some (.slice e)) (H:Has N D a l) (hx:ev l x = some (.slice ao n c)):∀ w,S w→(execOp a.eval ⟨dd,.call { callee:=.builtin .len,args:=#[x],argTypes:=#[t] },ty,pos,af,gd⟩).run P w = .ok (.value (.int .i64 (n:Int))) w:=fun w _=>by
 have h1:=H.ev hx;simp [execOp,resolve,invoke,builtin,h1,Builtin.len_,run_underlying ht,goInt]
theorem Ff {t t':TypeId} {x y:Operand} {m n r:Int} (H:Has N D a l) (hx:ev l x = some (.int .i64 m)) (hy:ev l y = some (.int .i64 n)) (hr:m+n = r) (h0:-9223372036854775808≤r) (h1:r≤9223372036854775807):∀ w,S w→(execOp a.eval ⟨dd,.binOp .add t x y t',ty,pos,af,gd⟩).run P w = .ok (.value (.int .i64 r)) w:=fun w _=>by
 have h2:=H.ev hx;have h3:=H.ev hy;have h4:=DV h0 h1;rw [←hr] at h4 ⊢;simp only [execOp,h2,h3];simp [go_sem,h4]
theorem Hf {src dst:TypeId} {q q':IntKind} {x:Operand} {n:Int} (hs:P.underlying src = some (.int q)) (hds:P.underlying dst = some (.int q')) (H:Has N D a l) (hx:ev l x = some (.int q n)) (hn:q'.wrap n = n):∀ w,S w→(execOp a.eval ⟨dd,.convert src dst x,ty,pos,af,gd⟩).run P w = .ok (.value (.int q' n)) w:=fun w _=>by
 have h1:=H.ev hx;simp only [execOp,h1];simp [Gp hs hds hn w,Result.andThen]
end
theorem AN {P:Program} {N:Nat} {a:Act} {l:List (Nat × Value)} {w:World} {fn:Func} {t u:Tmp} {v e:Value} {R:Ending→World→Prop} (hres:fn.results = #[.tmp t,.tmp u]) (H:Has N [] a l) (h1:Bo l t = some v) (h2:Bo l u = some e) (hR:R (.returned (.tuple #[v,e])) w):bodyPost P fn R .ret a w:=by
 have e1:=H.get t v h1;have e2:=H.get u e h2
 have h:(results fn a.tmps).run P w = .ok (.tuple #[v,e]) w:=by simp [results,hres,e1,e2]
 exact bodyPost_ret_by h H.defers hR
theorem Gs:Bu Tryd.prog 20:=⟨_,Tryd.func20,by kernel_rfl,by kernel_rfl⟩
theorem pf_dec:Bu Tryd.prog 21:=⟨_,Tryd.func21,by kernel_rfl,by kernel_rfl⟩
theorem Ax:Bu Tryd.prog 22:=⟨_,Tryd.func22,by kernel_rfl,by kernel_rfl⟩
theorem pf_cons:Bu Tryd.prog 23:=⟨_,Tryd.func23,by kernel_rfl,by kernel_rfl⟩
theorem Gr:Bu Tryd.prog 24:=⟨_,Tryd.func24,by kernel_rfl,by kernel_rfl⟩
theorem A3:Bu Tryd.prog 25:=⟨_,Tryd.func25,by kernel_rfl,by kernel_rfl⟩
theorem DX:Bu Tryd.prog 26:=⟨_,Tryd.func26,by kernel_rfl,by kernel_rfl⟩
theorem DY:Bu Tryd.prog 27:=⟨_,Tryd.func27,by kernel_rfl,by kernel_rfl⟩
end
end Go.Proofs.YtgdnpnipahegaaaDoor
