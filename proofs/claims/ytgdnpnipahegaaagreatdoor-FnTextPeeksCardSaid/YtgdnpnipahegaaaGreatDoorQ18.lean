/-
 strconv.ParseUint at base 8, for 8 bits, of at most three digits of that base: the number, or none where it is too large.
-/
import Derived.Test.YtgdnpnipahegaaaGreatDoorTHex
import Derived.Test.YtgdnpnipahegaaaGreatDoorQ4
import Derived.Test.YtgdnpnipahegaaaGreatDoorQ6
import Derived.Test.YtgdnpnipahegaaaGreatDoorTTrim
import Derived.Test.YtgdnpnipahegaaaGreatDoorQ9
namespace Go.Proofs.YtgdnpnipahegaaaGreatDoor
section
open Go.ChangeShapes Go.WideShapes Go.ChangeAt Go.RowKit Go.Lib
def Ob (l:List UInt8):Value:=if 255 < GS 0 l then .tuple #[.int .u64 255,.iface 101 (.int .i64 1)] else .tuple #[.int .u64 (GS 0 l:Int),.nilIface]
theorem KQ {l:List UInt8} {n:Nat} (h:GS 0 l = n) (hn:n≤255):Ob l = .tuple #[.int .u64 (n:Int),.nilIface]:=by subst h; exact if_neg (show ¬ 255 < GS 0 l by omega)
theorem KR {l:List UInt8} (h:255 < GS 0 l):Ob l = .tuple #[.int .u64 255,.iface 101 (.int .i64 1)]:=if_pos h
theorem RZ {l:List UInt8} {k acc:Nat} (hk:k < l.length):GS acc (l.drop k) = GS (acc * 8+(l[k].toNat - 48)) (l.drop (k+1)):=by
 rw [List.drop_eq_getElem_cons hk]; try rfl
set_option maxRecDepth 100000 in
set_option maxHeartbeats 8000000 in
theorem Iq (l:List UInt8) (w:World) (h1:1≤l.length) (h4:l.length≤3) (ho:∀ c ∈ l,AG c = true) :
  Calls Tryz.prog 76 #[.string ⟨l.toArray⟩,.int .i64 8,.int .i64 8] w fun e w'=>e = .returned (Ob l)∧Below w.heap.size w w':=by
 have hne:l.isEmpty = false:=by
  cases l with
  | nil=>simp at h1
  | cons c l=>rfl
 have hl1:l.length≤3:=h4;have HO:=hid ho;clear h4 ho
 go_enter Tryz.func76,Tryz.ntmps76
 go_wp2_with (first | ((with_reducible refine Fk ?_); refine DJ _ (by rfl) _ 9 22 5 rfl Tryz.underlying9 Tryz.underlying22 Tryz.underlying5 l rfl (by omega) ?_; intro vb wb hvb hbb) | (refine Bc _ rfl _ 22 5 rfl Tryz.underlying22 _ _ _ rfl (by assumption) ?_) | fail)
 go_loop [12,13,101] (fun u n i=>u = .bool false∧∃ k m:Nat,k≤l.length∧m+1≤8 ^ k∧m≤255∧n = .int .u64 (m:Int)∧i = .int .i64 (k:Int)∧GS 0 l = GS m (l.drop k)) (fun _ _ i=>l.length - (Go.RowKit.intOf i).toNat)
 case atStart=>exact ⟨rfl,0,0,Nat.zero_le _,by simp,by omega,rfl,rfl,rfl⟩
 case round=>
  obtain ⟨rfl,k,m,hk,hm,hm2,rfl,rfl,hx⟩:=hrel;have HX:=hid hx;clear hx;obtain ⟨ao,cp,rfl⟩:=hvb.slice
  have hkI:(k:Int)≤3:=by omega
  by_cases hlt:k < l.length
  ·have hk4:k < l.length:=hlt
   have hkl:(k:Int).toNat < l.length:=by omega
   have hge:l[(k:Int).toNat]'hkl = l[k]:=by simp
   have hst:=RZ (acc:=m) hk4
   have hm3:m≤63:=by have:=Nat.pow_le_pow_right (show 0 < 8 by omega) (show k≤2 by omega); omega
   have hcu:¬ (2305843009213693952:Int)≤(m:Int):=by omega
   have hmm:m * 8+8≤8 ^ (k+1):=by rw [Nat.pow_succ]; omega
   have HM:=hid hmm;have hoc:=HO.out l[k] (List.getElem_mem hk4);clear hmm;generalize hc:l[k] = c at hst hge hoc;unfold AG at hoc;simp at hoc;obtain ⟨d1,d2⟩:=hoc;have bc:=AM c;have HST:=hid hst
   have e1:((c.toNat:Int) == 95) = false:=by simp; omega
   have e2:(48:Int)≤c.toNat:=by omega
   have e3:(c.toNat:Int)≤57:=by omega
   have e4:¬ (8:Int)≤(c.toNat:Int) - 48:=by omega
   clear hst
   by_cases hbig:255 < m * 8+(c.toNat - 48)
   ·have hkk:k+1 = l.length:=by
     have:¬ k+1 < l.length:=by
      intro h;have:=Nat.pow_le_pow_right (show 0 < 8 by omega) (show k≤1 by omega);omega
     omega
    have HF:=hid (KR (l:=l) (by rw [HX.out,HST.out,List.drop_of_length_le (by omega)]; exact hbig))
    have e5:(255:Int) < (m:Int) * 8+((c.toNat:Int) - 48):=by omega
    clear hkk hbig
    go_wp2_with (first | ((with_reducible refine A0 ?_); refine Ai _ rfl _ _ 22 5 rfl Tryz.underlying22 Ag _ _ _ rfl hvb _ (k:Int) rfl (by omega) hkl ?_; intro ad1 hc1; rw [hge] at hc1) | fail)
    go_ret2
    exact ⟨by rw [HF.out]; try rfl,hbb⟩
   ·have e5:¬ (255:Int) < (m:Int) * 8+((c.toNat:Int) - 48):=by omega
    have hb255:m * 8+(c.toNat - 48)≤255:=by omega
    have HB:=hid hb255;clear hbig hb255
    go_wp2_with (first | ((with_reducible refine A0 ?_); refine Ai _ rfl _ _ 22 5 rfl Tryz.underlying22 Ag _ _ _ rfl hvb _ (k:Int) rfl (by omega) hkl ?_; intro ad1 hc1; rw [hge] at hc1) | fail)
    go_round
    case rel=>exact ⟨rfl,k+1,m * 8+(c.toNat - 48),by omega,by have:=HM.out; omega,HB.out,by go_num,by go_num,by rw [HX.out,HST.out]⟩
    case measure=>simp [Go.RowKit.intOf]; omega
  ·have hk4:k = l.length:=by omega
   have HF:Hid (Ob l = .tuple #[.int .u64 (m:Int),.nilIface]):=hid (KQ (by rw [HX.out,List.drop_of_length_le (by omega)]; try rfl) hm2);clear hk4
   go_wp2_with fail
   go_ret2
   exact ⟨by rw [HF.out]; try rfl,hbb⟩
set_option maxRecDepth 100000 in
set_option maxHeartbeats 2000000 in
theorem L0 (fn s:ByteArray) (w:World) (hlim:s.size≤281474976710656) (hv:ErrVar 3 w) :
  Calls Tryz.prog 78 #[.string fn,.string s] w fun e w'=>∃ N,e = .returned (.pointer (some ⟨N,0,none⟩))∧Below w.heap.size w w':=by
 obtain ⟨te,pe,hv⟩:=hv;have hG:3 < w.heap.size:=Lib.lt_of_cell hv;have hvd:w.drew.cell? ⟨3,0,none⟩ = some (.iface te pe):=hv
 go_enter Tryz.func78,Tryz.ntmps78
 go_wp2
 go_region_with (
   go_at_call 92
   refine (Ny s _ hlim).mono ?_;rintro e w2 ⟨rfl,hbel⟩
   have hv2:w2.cell? ⟨3,0,none⟩ = some (.iface te pe):=(hbel.cell (show (⟨3,0,none⟩:Addr).block < w.drew.heap.size from hG)).trans hvd)
 all_goals (
  go_wp2
  go_ret
  have hs2:w.heap.size≤w2.heap.size:=hbel.size
  exact ⟨_,rfl,((Below.drew (Below.refl _ w)).trans hbel).alloc hs2 _⟩)
set_option maxRecDepth 100000 in
set_option maxHeartbeats 2000000 in
theorem NP (fn s:ByteArray) (base bs:Int) (w:World) (hlim:s.size≤281474976710656) (hv:ErrVar 3 w) :
  Calls Tryz.prog 70 #[.string fn,.string s,.int .i64 base,.int .i64 bs,.iface 101 (.int .i64 1)] w fun e w'=>∃ N,e = .returned (.iface 106 (.pointer (some ⟨N,0,none⟩)))∧Below w.heap.size w w':=by
 have heq1:∀ W,(binOp .eql 52 (.iface 101 (.int .i64 1)) (.iface 101 (.int .i64 2))).run Tryz.prog W = .ok (.bool false) W:=fun W=>Lib.run_eql_iface_int W 1 2 Tryz.underlying52 (by kernel_rfl) Tryz.underlying101;have heq2:∀ W,(binOp .eql 52 (.iface 101 (.int .i64 1)) (.iface 101 (.int .i64 1))).run Tryz.prog W = .ok (.bool true) W:=fun W=>Lib.run_eql_iface_int W 1 1 Tryz.underlying52 (by kernel_rfl) Tryz.underlying101
 go_enter Tryz.func70,Tryz.ntmps70
 go_wp2_with (go_at_call 78; refine (L0 fn s _ hlim hv).mono ?_; rintro e w2 ⟨N,rfl,hb⟩)
 go_ret
 exact ⟨N,rfl,hb⟩
set_option maxRecDepth 100000 in
theorem MI (l:List UInt8) (n:Nat) (w:World) (h1:1≤l.length) (h4:l.length≤3) (ho:∀ c ∈ l,AG c = true) (hn:GS 0 l = n) (hle:n≤255) :
  Calls Tryz.prog 84 #[.string ⟨l.toArray⟩,.int .i64 8,.int .i64 8] w fun e w'=>e = .returned (.tuple #[.int .u64 (n:Int),.nilIface])∧Below w.heap.size w w':=by
 have HP:=hid (Iq l w h1 h4 ho);rw [KQ hn hle] at HP
 go_enter Tryz.func84,Tryz.ntmps84
 go_wp2_with (first | (go_at_call 76; refine (Calls.mono HP.out ?_); rintro e w1 ⟨rfl,hb1⟩) | fail)
 go_ret2
 exact ⟨rfl,hb1⟩
set_option maxRecDepth 100000 in
theorem MJ (l:List UInt8) (w:World) (h1:1≤l.length) (h4:l.length≤3) (ho:∀ c ∈ l,AG c = true) (hn:255 < GS 0 l) (hv:ErrVar 3 w) :
  Calls Tryz.prog 84 #[.string ⟨l.toArray⟩,.int .i64 8,.int .i64 8] w fun e w'=>(∃ n t x,e = .returned (.tuple #[.int .u64 n,.iface t x]))∧Below w.heap.size w w':=by
 have HP:=hid (Iq l w h1 h4 ho);rw [KR hn] at HP
 have hsz:(⟨l.toArray⟩:ByteArray).size≤281474976710656:=by rw [Ed]; omega
 go_enter Tryz.func84,Tryz.ntmps84
 go_wp2_with (first | (go_at_call 76; refine (Calls.mono HP.out ?_); rintro e w1 ⟨rfl,hb1⟩; have hv1:=hv.below hb1) | (go_at_call 70; refine (NP _ _ _ _ _ hsz hv1).mono ?_; rintro e w2 ⟨N,rfl,hb2⟩) | fail)
 go_ret2
 exact ⟨⟨_,_,_,rfl⟩,Ad hb1 hb2⟩
end
section
open Go.ChangeShapes Go.WideShapes Go.ChangeAt Go.RowKit
def encLen (c:Nat):Nat:=if c < 128 then 1 else if c < 2048 then 2 else if c < 65536 then 3 else 4
def u8size (l:List UInt8):Nat:=match BI l with
 | some (_,n)=>n
 | none=>0
def head2 (c:Nat):Option (Nat × Nat):=if 192≤c∧c < 224 then some (1,c % 32) else if 224≤c∧c < 240 then some (2,c % 16) else if 240≤c∧c < 248 then some (3,c % 8) else none
def ok2 (n v:Nat):Bool:=decide (v≤1114111) && !(decide (55296≤v) && decide (v < 57344)) && encLen v == n
def size2:List UInt8→Nat
 | []=>0
 | c::l=>if c.toNat < 128 then 1 else match head2 c.toNat with
  | none=>0
  | some (n,first)=>match B6 n first l with
   | none=>0
   | some v=>if ok2 (n+1) v then n+1 else 0
end
section
open Go.ChangeShapes Go.WideShapes Go.ChangeAt Go.RowKit
theorem Rz:∀ n:Int,0≤n→n < 2 ^ 31→IntKind.i32.wrap n = n:=fun n h0 h1=>IntWalk.i32_in n ⟨by omega,by omega⟩
set_option maxRecDepth 100000 in
theorem HJ (v:Nat) (w:World):Calls Tryz.prog 85 #[.int .i32 (v:Int)] w fun e w'=>e = .returned (.bool (FC v))∧w = w':=by
 have h1:decide ((55296:Int)≤(v:Int)) = decide (55296≤v):=by congr 1; simp; omega
 have h2:decide ((v:Int) < 57344) = decide (v < 57344):=by congr 1; simp; omega
 have HS:Hid (FC v = (decide ((55296:Int)≤(v:Int)) && decide ((v:Int) < 57344))):=hid (by rw [h1,h2]; try rfl);clear h1 h2
 rcases ha:decide ((55296:Int)≤(v:Int)) with _ | _
 ·have HS2:Hid (FC v = false):=hid (by rw [HS.out,ha]; try rfl)
  go_enter Tryz.func85,Tryz.ntmps85
  go_wp2
  go_ret
  exact ⟨by rw [HS2.out]; try rfl,rfl⟩
 ·rcases hb:decide ((v:Int) < 57344) with _ | _
  all_goals
   have HS2:=HS.out;rw [ha,hb] at HS2;replace HS2:=hid HS2
   go_enter Tryz.func85,Tryz.ntmps85
   go_wp2
   go_ret
   exact ⟨by rw [HS2.out]; try rfl,rfl⟩
theorem or_pair (x y:Int) (hx₀:0≤x) (hx₁:x < 1024) (hy₀:0≤y) (hy₁:y < 1024):bits .or .i32 (x * 1024) y = x * 1024+y:=
 bits_join .i32 31 (by decide) Rz 10 (x * 1024) y (by omega) (by omega) (by omega) hy₀ (by omega) (by omega)
def L6 (v u:Nat):Bool:=decide (55296≤v) && decide (v < 56320) && decide (56320≤u) && decide (u < 57344)
theorem Pj (v u:Nat):Dd v u = if L6 v u then (v - 55296) * 1024+(u - 56320)+65536 else 65533:=by
 unfold Dd L6;simp [Bool.and_eq_true,and_assoc]
set_option maxRecDepth 100000 in
set_option maxHeartbeats 1000000 in
theorem JZ (v u:Nat) (w:World):Calls Tryz.prog 86 #[.int .i32 (v:Int),.int .i32 (u:Int)] w fun e w'=>e = .returned (.int .i32 (Dd v u:Int))∧w = w':=by
 by_cases h:L6 v u = true
 ·have HR:=hid (Pj v u);rw [if_pos h] at HR;unfold L6 at h;simp only [Bool.and_eq_true,decide_eq_true_eq] at h;obtain ⟨⟨⟨a1,a2⟩,a3⟩,a4⟩:=h
  have b1:decide ((55296:Int)≤(v:Int)) = true:=by simp; omega
  have b2:decide ((v:Int) < 56320) = true:=by simp; omega
  have b3:decide ((56320:Int)≤(u:Int)) = true:=by simp; omega
  have b4:decide ((u:Int) < 57344) = true:=by simp; omega
  have HO:=hid (or_pair ((v:Int) - 55296) ((u:Int) - 56320) (by omega) (by omega) (by omega) (by omega));have H1:=hid a1;have H2:=hid a2;have H3:=hid a3;have H4:=hid a4;clear a1 a2 a3 a4
  go_enter Tryz.func86,Tryz.ntmps86
  go_wp2
  go_ret
  have h1:=H1.out;have h2:=H2.out;have h3:=H3.out;have h4:=H4.out
  have e1:wrap32 ((v:Int) - 55296) = (v:Int) - 55296:=by unfold wrap32; omega
  have e2:wrap32 ((u:Int) - 56320) = (u:Int) - 56320:=by unfold wrap32; omega
  have e3:wrap32 (((v:Int) - 55296) * 1024) = ((v:Int) - 55296) * 1024:=by unfold wrap32; omega
  refine ⟨Q1 ?_,rfl⟩
  show wrap32 (bits .or .i32 (wrap32 (wrap32 ((v:Int) - 55296) * 1024)) (wrap32 ((u:Int) - 56320))+65536) = _
  rw [e1,e2,e3,HO.out,HR.out];unfold wrap32;omega
 ·have HR:=hid (Pj v u);rw [if_neg h] at HR
  have hcs:decide ((55296:Int)≤(v:Int)) = false∨decide ((55296:Int)≤(v:Int)) = true∧(decide ((v:Int) < 56320) = false∨decide ((v:Int) < 56320) = true∧(decide ((56320:Int)≤(u:Int)) = false∨decide ((56320:Int)≤(u:Int)) = true∧decide ((u:Int) < 57344) = false)):=by
   unfold L6 at h;simp only [Bool.and_eq_true,decide_eq_true_eq] at h;simp only [decide_eq_false_iff_not,decide_eq_true_eq];omega
  clear h
  rcases hcs with b1 | ⟨b1,b2 | ⟨b2,b3 | ⟨b3,b4⟩⟩⟩
  all_goals
   go_enter Tryz.func86,Tryz.ntmps86
   go_wp2
   go_ret
   exact ⟨Q1 (by rw [HR.out]; try rfl),rfl⟩
end
section
open Go.ChangeShapes Go.WideShapes Go.ChangeAt Go.RowKit
theorem OL {l:List UInt8} {c n:Nat} (h:BI l = some (c,n)) (hc:c < 128):∃ b l2,l = b::l2∧b.toNat = c∧n = 1:=by
 cases l with
 | nil=>cases h
 | cons b l2=>
  by_cases h1:b.toNat < 128
  ·rw [Bo,if_pos h1] at h; cases h; exact ⟨b,l2,rfl,rfl,rfl⟩
  ·rw [Bo,if_neg h1] at h
   rcases hh:C8 b.toNat with _ | ⟨k,least,first⟩
   ·rw [hh] at h; cases h
   ·rw [hh] at h;simp only at h;have hk:=IF hh
    rcases ht:B6 k first l2 with _ | v'
    ·rw [ht] at h; cases h
    ·rw [ht] at h;simp only at h
     split at h
     ·rename_i hok
      cases h;unfold K7 at hok;simp at hok;omega
     ·cases h
theorem u8_one {l:List UInt8} {c n:Nat} (h:BI l = some (c,n)) (hn:n = 1):c < 128:=by
 cases l with
 | nil=>cases h
 | cons b l2=>
  by_cases h1:b.toNat < 128
  ·rw [Bo,if_pos h1] at h; cases h; exact h1
  ·rw [Bo,if_neg h1] at h
   rcases hh:C8 b.toNat with _ | ⟨k,least,first⟩
   ·rw [hh] at h; cases h
   ·rw [hh] at h;simp only at h;have hk:=IF hh
    rcases ht:B6 k first l2 with _ | v'
    ·rw [ht] at h; cases h
    ·rw [ht] at h;simp only at h
     split at h
     ·cases h; omega
     ·cases h
theorem chr_bad {l:List UInt8} (h:chr l = (65533,1)):BI l = none:=by
 rcases hu:BI l with _ | ⟨c,n⟩
 ·rfl
 ·have:chr l = (c,n):=by unfold chr; rw [hu]
  rw [this] at h
  injection h with h1 h2
  have:=u8_one hu h2;omega
theorem Lp {c:Nat} (h:c < 55296∨57344≤c∧c≤1114111):Utf8.encode (c:Int) = ⟨(FK c).toArray⟩:=by
 have hv:Utf8.valid (c:Int) = true:=by unfold Utf8.valid; simp; omega
 unfold Utf8.encode FK;simp only [hv,if_true,Int.toNat_natCast]
 repeat' split
 all_goals first | rfl | omega
theorem Kc (c:Nat):1≤(FK c).length:=by
 unfold FK
 split
 ·simp
 ·split
  ·simp
  ·split <;> simp
theorem P4 {w:World} {g:Nat} {ao:Option Addr} {m cp:Nat} {bs:List UInt8} (hv:View w g (.slice ao m cp) bs) (hne:1≤bs.length):∃ ad:Addr,ao = some ad∧∀ j u,(byteCells bs)[j]? = some u→w.cell? (ad.add j) = some u:=by
 obtain ⟨ao',cap,he,h3,h4,hn0,off,h5,h6⟩:=hv
 injection he with e1 e2 e3
 subst e1 e2 e3;refine ⟨⟨g,off,none⟩,h5 (by intro e; rw [e] at hne; simp at hne),fun j u hu=>?_⟩
 have hj:j < bs.length:=by have:=(List.getElem?_eq_some_iff.1 hu).1; simpa [byteCells] using this
 rw [Addr.add_lit,h6 j hj,←hu];simp [byteCells,hj]
theorem View.keptB {w w':World} {g B:Nat} {v:Value} {bs:List UInt8} (h:View w g v bs) (hb:Below B w w') (hg:g < B):View w' g v bs:=h.kept (hb.block g hg)
theorem chr_u8 {l:List UInt8} {c n:Nat} (h:chr l = (c,n)) (hc:¬ (c = 65533∧n = 1)):BI l = some (c,n):=by
 unfold chr at h
 rcases hu:BI l with _ | ⟨c',n'⟩
 ·rw [hu] at h; simp only [Prod.mk.injEq] at h; exact absurd ⟨h.1.symm,h.2.symm⟩ hc
 ·rw [hu] at h; simp only [Prod.mk.injEq] at h; rw [h.1,h.2]
theorem TY {c:UInt8} (h:AQ c = true):Fe c.toNat < 16:=by
 unfold AQ at h;simp at h
 have hl:(48≤c.toNat∧c.toNat≤57)∨97≤Ej c.toNat∧Ej c.toNat≤102:=by
  unfold Ej
  rcases h with h | h | h
  ·exact .inl h
  ·rw [if_pos (by omega)]; exact .inr h
  ·rw [if_neg (by omega)]; exact .inr (by omega)
 unfold Fe
 split
 ·omega
 ·rw [if_pos (by omega)]; omega
theorem Np:∀ (l:List UInt8) (acc:Nat),(∀ c ∈ l,AQ c = true)→∃ v,CI acc l = some v
 | [],acc,_=>⟨acc,rfl⟩
 | c::l,acc,h=>by
  unfold CI;rw [if_pos (TY (h c (by simp)))];exact Np l _ (fun d hd=>h d (by simp [hd]))
theorem GF (v:Nat):(FK v).length≤4:=MA v
theorem Ly {d:Nat} {b c:UInt8} {l:List UInt8} (h:l.length < d):Fl d (b::c::l) = none:=by unfold Fl; rw [if_pos (by simp; omega)]
theorem Ii {d:Nat} {b c:UInt8} {l:List UInt8} (h:¬ l.length < d):Fl d (b::c::l) = (match CI 0 (l.take d) with
 | none=>none
 | some v=>if 1114111 < v then none else if FC v = false then some (FK v,d+2)
  else if (b::c::l).length < d+8 then none
  else match CI 0 (((b::c::l).drop (d+4)).take 4) with
  | none=>none
  | some u=>if ((b::c::l).getD (d+2) 0).toNat = 92∧((b::c::l).getD (d+3) 0).toNat = 117∧Dd v u≠65533 then some (FK (Dd v u),d+8) else none):=by
 unfold Fl; rw [if_neg (by simp; omega)]; rfl
theorem OK {d:Nat} {b c:UInt8} {l:List UInt8} (h:¬ l.length < d) (hx:CI 0 (l.take d) = none):Fl d (b::c::l) = none:=by rw [Ii h,hx]
theorem OJ {d v:Nat} {b c:UInt8} {l:List UInt8} (h:¬ l.length < d) (hx:CI 0 (l.take d) = some v) (hv:1114111 < v):Fl d (b::c::l) = none:=by rw [Ii h,hx]; simp only; rw [if_pos hv]
theorem OI {d v:Nat} {b c:UInt8} {l:List UInt8} (h:¬ l.length < d) (hx:CI 0 (l.take d) = some v) (hv:¬ 1114111 < v) (hs:FC v = false):Fl d (b::c::l) = some (FK v,d+2):=by
 rw [Ii h,hx]; simp only; rw [if_neg hv,if_pos hs]
theorem KI {d v:Nat} {b c:UInt8} {l:List UInt8} (h:¬ l.length < d) (hx:CI 0 (l.take d) = some v) (hs:FC v = true) (h2:(l.drop d).length < 6):Fl d (b::c::l) = none:=by
 rw [Ii h,hx]; simp only
 split
 ·rfl
 ·rw [if_neg (by rw [hs]; decide),if_pos (by simp at h2 ⊢; omega)]
theorem SW {v:Nat} (hs:FC v = true):55296≤v∧v < 57344:=by unfold FC at hs; simpa using hs
theorem IE {d v:Nat} {b c e f:UInt8} {l l5:List UInt8} (h:¬ l.length < d) (hx:CI 0 (l.take d) = some v) (hs:FC v = true) (h4:l.drop d = e::f::l5) (h5:4≤l5.length):Fl d (b::c::l) = (match CI 0 (l5.take 4) with
  | none=>none
  | some u=>if e.toNat = 92∧f.toNat = 117∧Dd v u≠65533 then some (FK (Dd v u),d+8) else none):=by
 have hl:l.length = l5.length+d+2:=by have:=congrArg List.length h4; simp at this; omega
 have hd:(b::c::l).drop (d+4) = l5:=by
  show l.drop (d+2) = l5
  rw [←List.drop_drop,h4]; try rfl
 have he:(b::c::l).getD (d+2) 0 = e:=by
  have:=congrArg (fun x=>x.getD 0 0) h4
  simpa [List.getD_eq_getElem?_getD] using this
 have hf:(b::c::l).getD (d+3) 0 = f:=by
  have:=congrArg (fun x=>x.getD 1 0) h4
  simpa [List.getD_eq_getElem?_getD] using this
 have hv:=SW hs;rw [Ii h,hx]; simp only; rw [if_neg (by omega),if_neg (by rw [hs]; decide),if_neg (by simp; omega),hd,he,hf]
theorem L5 (v:Nat):Dd v 0 = 65533:=by unfold Dd; rw [if_neg (by omega)]
theorem Ph {v u:Nat} (h:Dd v u≠65533):57344≤Dd v u∧Dd v u≤1114111:=by
 unfold Dd at h ⊢
 split
 ·omega
 ·rename_i hn; rw [if_neg hn] at h; exact absurd rfl h
theorem P3 {w:World} {g B:Nat} {v:Value} {bs:List UInt8} (hv:View w g v bs) (k k':IntKind) (n:Nat) (hn:n≤bs.length):∃ v',(∀ W,(Instr.slice 22 v none (some (.int k (n:Int))) (some (.int k' (n:Int)))).run Tryz.prog W = .ok v' W)∧OutV w B 5 v' (bs.take n)∧(bs.take n≠[]→∀ j,v'.ownBlock = some j→j = g):=by
 obtain ⟨ao,cap,rfl,h3,h4,hn0,off,h5,h6⟩:=hv;obtain ⟨inf,hi1,hz,hz1,hz2⟩:=info_parts Ag
 have hlen:(bs.take n).length = n:=by simp; omega
 refine ⟨.slice (if n = 0 then ao else ao.map (·.add (0 * 1))) n n,fun W=>?_,?_,fun hne j hj=>?_⟩
 ·have hs:Tryz.prog.underlying 22 = some (.slice (Tryz.prog.elem 22)):=by simp [Program.elem,Tryz.underlying22]
  have he:Tryz.prog.elem 22 = 5:=by simp [Program.elem,Tryz.underlying22]
  have hsz:(sizeOf (Tryz.prog.elem 22)).run Tryz.prog W = .ok 1 W:=by simp [sizeOf,typeInfo,he,hi1,hz1]
  rw [run_slice_hm W 22 ao bs.length cap hs k k' (n:Int) (n:Int) (by omega) (by omega) (by omega),hsz]
  try rfl
 ·by_cases h0:n = 0
  ·subst h0;rw [if_pos rfl]
   cases ao with
   | none=>exact .inl (OwnB.nil w B 5)
   | some ad=>exact .inr ⟨ad,rfl,fun j u hu=>by simp [byteCells] at hu⟩
  ·rw [if_neg h0]
   have hb:bs≠[]:=by intro e; subst e; simp at hn; exact h0 hn
   have:=h5 hb;subst this;refine .inr ⟨⟨g,off,none⟩,by rw [hlen]; simp [Addr.add_lit],fun j u hu=>?_⟩
   have hj:j < (bs.take n).length:=by have:=(List.getElem?_eq_some_iff.1 hu).1; simpa [byteCells] using this
   rw [hlen] at hj;rw [Addr.add_lit,h6 j (by omega),←hu];simp [byteCells,hj,List.getElem?_eq_getElem (show j < bs.length by omega)]
 ·have h0:n≠0:=by intro e; subst e; simp at hne
  have hb:bs≠[]:=by intro e; subst e; simp at hne
  rw [if_neg h0,h5 hb] at hj
  simpa [Value.ownBlock,Addr.add_lit] using hj.symm
def UH (p:Nat) (v:Value) (bs:List UInt8):Prop:=bs≠[]→∀ k,v.ownBlock = some k→k≠p
theorem OutV.grown {w w':World} {B p:Nat} {v:Value} {bs:List UInt8} (h:OutV w B 5 v bs) (hg:w.grownBy w' (some p)) (hp:p < B) (ha:UH p v bs):OutV w' B 5 v bs:=by
 rcases h with h | ⟨ad,rfl,hc⟩
 ·exact .inl (World.ownsRow.kept h hg (.inr (fun e=>by have:=(World.ownsRow.lt h p e).1; omega)))
 ·refine .inr ⟨ad,rfl,fun j u hu=>?_⟩
  have hne:bs≠[]:=by intro e; subst e; simp [byteCells] at hu
  have hap:=ha hne ad.block rfl;have hlt:=World.block_lt_of_cell? w _ (hc j u hu);have e:w'.heap[(ad.add j).block]? = w.heap[(ad.add j).block]?:=hg.block _ hlt (by rw [Sx]; intro e; injection e with e; exact hap e);rw [World.cell?_of_block (w:=w) (a:=ad.add j) e];exact hc j u hu
theorem OwnB.apart {w:World} {B p:Nat} {v:Value} {bs:List UInt8} (h:OwnB w B 5 v bs) (hp:p < B):UH p v bs:=fun _ k hk e=>by have:=(World.ownsRow.lt h k hk).1; omega
def StrRes (B p g:Nat) (bs:List UInt8) (vr ve vst vo:Value) (s:DT) (n:Nat) (w:World) (o:Option (List UInt8 × Nat)) (e:Ending) (w':World):Prop:=match o with
 | some (t,m)=>e = .returned (.tuple #[.string ⟨t.toArray⟩,.nilIface])∧∃ vi',DW B p g bs vr ve vst vo vi' { s with k:=goT bs s.k (n+1 - m) } w'∧w.grownBy w' (some p)
 | none=>(∃ te x,e = .returned (.tuple #[.string ⟨#[]⟩,.iface te x]))∧Below w.heap.size w w'
theorem StrRes.bad {B p g:Nat} {bs:List UInt8} {vr ve vst vo:Value} {s:DT} {n:Nat} {w w':World} {o:Option (List UInt8 × Nat)} (h:o = none) (te:TypeId) (x:Value) (hb:Below w.heap.size w w'):StrRes B p g bs vr ve vst vo s n w o (.returned (.tuple #[.string ⟨#[]⟩,.iface te x])) w':=by
 rw [h]; exact ⟨⟨te,x,rfl⟩,hb⟩
section
variable {N:Nat} {D:List Deferred} {a:Act} {l:List (Nat × Value)} {L rest:List Oper} {Q:Exit→Act→World→Prop} {w:World} {d:Nat} {ty:TypeId} {pos:String} {af:Array Edge}
theorem Fw {x i j:Operand} {g m n:Nat} {mi ni:Int} {v:Value} {bs ys:List UInt8} {k k':IntKind} (H:Has N D a l) (hx:ev l x = some v) (hi:ev l i = some (.int k mi)) (hj:ev l j = some (.int k' ni)) (hv:View w g v bs) (hm:mi = (m:Int)) (hn:ni = (n:Int)) (hmn:m≤n) (hl:n≤bs.length) (he:(bs.drop m).take (n - m) = ys) (hd:Nat.blt d N = true)
  (h:∀ a v',Has N D a ((d,v')::l)→View w g v' ys→wpList Tryz.prog L.toArray Q rest a w):wpList Tryz.prog L.toArray Q (⟨some d,.slice 22 x (some i) (some j) none,ty,pos,af,none⟩::rest) a w:=by
 subst hm hn he;exact Gq w (by rfl) x i j 22 5 rfl Tryz.underlying22 Ag g v bs (H.ev hx) hv k k' _ _ (H.ev hi) (H.ev hj) (by omega) (by omega) (by omega) fun v' hv'=>h _ v' (H.put hd) hv'
theorem Hj {x i:Operand} {g m:Nat} {mi:Int} {v:Value} {bs ys:List UInt8} {k:IntKind} (H:Has N D a l) (hx:ev l x = some v) (hi:ev l i = some (.int k mi)) (hv:View w g v bs) (hm:mi = (m:Int)) (hl:m≤bs.length) (he:bs.drop m = ys) (hd:Nat.blt d N = true)
  (h:∀ a v',Has N D a ((d,v')::l)→View w g v' ys→wpList Tryz.prog L.toArray Q rest a w):wpList Tryz.prog L.toArray Q (⟨some d,.slice 22 x (some i) none none,ty,pos,af,none⟩::rest) a w:=by
 subst hm he;exact AL w (by rfl) x i 22 5 rfl Tryz.underlying22 Ag g v bs (H.ev hx) hv k _ (H.ev hi) (by omega) (by omega) fun v' hv'=>h _ v' (H.put hd) hv'
theorem Fv {x:Operand} {g:Nat} {v:Value} {bs:List UInt8} (H:Has N D a l) (hx:ev l x = some v) (hv:View w g v bs) (hd:Nat.blt d N = true)
  (h:∀ a,Has N D a ((d,.string ⟨bs.toArray⟩)::l)→wpList Tryz.prog L.toArray Q rest a w):wpList Tryz.prog L.toArray Q (⟨some d,.convert 22 9 x,ty,pos,af,none⟩::rest) a w:=
 Bu w (by rfl) x 22 9 5 rfl Tryz.underlying22 Tryz.underlying5 Tryz.underlying9 g v bs (H.ev hx) hv (h _ (H.put hd))
theorem Ry {x:Operand} {B:Nat} {v:Value} {bs:List UInt8} (H:Has N D a l) (hx:ev l x = some v) (hv:OutV w B 5 v bs) (hd:Nat.blt d N = true)
  (h:∀ a,Has N D a ((d,.string ⟨bs.toArray⟩)::l)→wpList Tryz.prog L.toArray Q rest a w):wpList Tryz.prog L.toArray Q (⟨some d,.convert 22 9 x,ty,pos,af,none⟩::rest) a w:=
 JD w (by rfl) x 22 9 5 rfl Tryz.underlying22 Tryz.underlying5 Tryz.underlying9 B v bs (H.ev hx) hv (h _ (H.put hd))
theorem Hk {x:Operand} {c:Int} {bs:List UInt8} (H:Has N D a l) (hx:ev l x = some (.int .i32 c)) (he:Utf8.encode c = ⟨bs.toArray⟩) (hd:Nat.blt d N = true)
  (h:∀ a,Has N D a ((d,.string ⟨bs.toArray⟩)::l)→wpList Tryz.prog L.toArray Q rest a w):wpList Tryz.prog L.toArray Q (⟨some d,.convert 21 9 x,ty,pos,af,none⟩::rest) a w:=
 Cj H hd (by
  have h1:=H.ev hx
  have h2:(convert 21 9 (.int .i32 c)).run Tryz.prog w = .ok (.string ⟨bs.toArray⟩) w:=by rw [←he]; simp [convert,run_underlying Tryz.underlying21,run_underlying Tryz.underlying9,Sem.run_bind,go_sem,Conv.intToString]
  simp only [execOp,h1]
  simp [h2,Result.andThen]) h
theorem Q0 {P:Program} {src dst:TypeId} {q q':IntKind} {n:Int} (hs:P.underlying src = some (.int q)) (hds:P.underlying dst = some (.int q')) (hn:q'.wrap n = n) (w:World):(convert src dst (.int q n)).run P w = .ok (.int q' n) w:=by simp [convert,run_underlying hs,run_underlying hds,hn,Conv.intToInt,Sem.run_bind]
theorem Lt {src dst:TypeId} {q q':IntKind} {x:Operand} {n:Int} (hs:Tryz.prog.underlying src = some (.int q)) (hds:Tryz.prog.underlying dst = some (.int q')) (H:Has N D a l) (hx:ev l x = some (.int q n)) (hn:q'.wrap n = n) (hd:Nat.blt d N = true)
  (h:∀ a,Has N D a ((d,.int q' n)::l)→wpList Tryz.prog L.toArray Q rest a w):wpList Tryz.prog L.toArray Q (⟨some d,.convert src dst x,ty,pos,af,none⟩::rest) a w:=
 Cj H hd (by
  have h1:=H.ev hx;simp only [execOp,h1]
  simp [Q0 hs hds hn w,Result.andThen]) h
theorem Lx {n:Int} (h0:0≤n) (h1:n < 2147483648):IntKind.i32.wrap n = n:=IntWalk.i32_in n ⟨by omega,by omega⟩
theorem w_u8 {n:Int} (h0:0≤n) (h1:n < 256):IntKind.u8.wrap n = n:=IntWalk.u8_in n ⟨by omega,by omega⟩
theorem GJ {x:Operand} {c:Int} (H:Has N D a l) (hx:ev l x = some (.int .u8 c)) (hd:Nat.blt d N = true)
  (h:∀ w' q,RowAt w' q [.int .u8 c]→Below w.heap.size w w'→∀ a,Has N D a ((d,.slice (some ⟨q,0,none⟩) 1 1)::l)→wpList Tryz.prog L.toArray Q rest a w'):wpList Tryz.prog L.toArray Q (⟨some d,.buildSlice 22 1 #[(0,x)],ty,pos,af,none⟩::rest) a w:=
 Cj H hd (w':=w.alloc (.cells #[.int .u8 c] 5)) (v:=.slice (some ⟨w.heap.size,0,none⟩) 1 1) (Tc Tryz.underlying22 Ag H hx) (h _ _ (BW (heap_alloc_new w _)) ((Below.refl _ w).alloc (Nat.le_refl _) _))
theorem Oz {x y:Operand} {B m c:Nat} {v:Value} {bs ys:List UInt8} {ad:Addr} (H:Has N D a l) (hx:ev l x = some v) (hout:OutV w B 5 v bs) (hy:ev l y = some (.slice (some ad) m c)) (hl:ys.length = m) (hm:1≤m) (hc:∀ j u,(byteCells ys)[j]? = some u→w.cell? (ad.add j) = some u) (hB:B≤w.heap.size) (hlen:bs.length+m≤140737488355328) (hd:Nat.blt d N = true)
  (h:∀ v' w',OwnB w' B 5 v' (bs++ys)→Below B w w'→∀ a,Has N D a ((d,v')::l)→wpList Tryz.prog L.toArray Q rest a w') :
  wpList Tryz.prog L.toArray Q (⟨some d,.call { callee:=.builtin .append,args:=#[x,y],argTypes:=#[22,22] },22,pos,af,none⟩::rest) a w:=by
 obtain ⟨v',w',hr,h2,h3⟩:=LW (P:=Tryz.prog) w 22 22 5 Tryz.underlying22 Ag B hB v bs hout ad m c ys hl hm hc hlen;refine wpList_plain rfl fun K hK=>?_;have e1:=H.ev hx;have e2:=H.ev hy;unfold Oper.wp execOp;simp only [resolve,invoke,builtin,Sem.run_bind,Sem.run_pure,Result.andThen_ok,List.map_toArray,List.map_cons,List.map_nil,e1,e2,hr];exact hK _ _ (h v' w' h2 h3 _ (H.put hd))
theorem GI {x y:Operand} {B q:Nat} {v:Value} {bs:List UInt8} (c:UInt8) (H:Has N D a l) (hx:ev l x = some v) (hout:OutV w B 5 v bs) (hy:ev l y = some (.slice (some ⟨q,0,none⟩) 1 1)) (hr:RowAt w q [.int .u8 (c.toNat:Int)]) (hB:B≤w.heap.size) (hlen:bs.length+1≤140737488355328) (hd:Nat.blt d N = true)
  (h:∀ v' w',OwnB w' B 5 v' (bs++[c])→Below B w w'→∀ a,Has N D a ((d,v')::l)→wpList Tryz.prog L.toArray Q rest a w') :
  wpList Tryz.prog L.toArray Q (⟨some d,.call { callee:=.builtin .append,args:=#[x,y],argTypes:=#[22,22] },22,pos,af,none⟩::rest) a w:=
 Oz H hx hout hy rfl (Nat.le_refl 1) (fun j u hj=>by
  match j,hj with
  | 0,hj=>
   simp [byteCells] at hj;subst hj;rw [Addr.add_lit]
   exact (hr 0 _ rfl).1) hB hlen hd h
theorem y_outV {x y:Operand} {B g:Nat} {v u:Value} {bs ys:List UInt8} (H:Has N D a l) (hx:ev l x = some v) (hout:OutV w B 5 v bs) (hy:ev l y = some u) (hv:View w g u ys) (hne:1≤ys.length) (hB:B≤w.heap.size) (hlen:bs.length+ys.length≤140737488355328) (hd:Nat.blt d N = true)
  (h:∀ v' w',OwnB w' B 5 v' (bs++ys)→Below B w w'→∀ a,Has N D a ((d,v')::l)→wpList Tryz.prog L.toArray Q rest a w') :
  wpList Tryz.prog L.toArray Q (⟨some d,.call { callee:=.builtin .append,args:=#[x,y],argTypes:=#[22,22] },22,pos,af,none⟩::rest) a w:=by
 obtain ⟨ao,c,rfl⟩:=hv.slice;obtain ⟨ad,rfl,hc⟩:=P4 hv hne;exact Oz H hx hout hy rfl hne hc hB hlen hd h
theorem NH {x y:Operand} {B:Nat} {v:Value} {bs ys:List UInt8} (H:Has N D a l) (hx:ev l x = some v) (hout:OutV w B 5 v bs) (hy:ev l y = some (.string ⟨ys.toArray⟩)) (hne:1≤ys.length) (hB:B≤w.heap.size) (hlen:bs.length+ys.length≤140737488355328) (hd:Nat.blt d N = true)
  (h:∀ v' w',OwnB w' B 5 v' (bs++ys)→Below B w w'→∀ a,Has N D a ((d,v')::l)→wpList Tryz.prog L.toArray Q rest a w') :
  wpList Tryz.prog L.toArray Q (⟨some d,.call { callee:=.builtin .append,args:=#[x,y],argTypes:=#[22,9] },ty,pos,af,none⟩::rest) a w:=
 Ic w rfl x y 22 9 rfl 5 Tryz.underlying22 Tryz.underlying9 Ag B hB v bs (H.ev hx) hout ys (H.ev hy) hne hlen fun v' w' h1 h2=>h v' w' h1 h2 _ (H.put hd)
theorem T3:(Tryz.prog.info? 20).map (fun i=>(i.zero,i.size,i.bytes)) = some (some .nilIface,1,16):=by kernel_rfl
theorem C0 {x:Operand} {t:TypeId} {v:Value} (H:Has N D a l) (hx:ev l x = some (.iface t v)) (hd:Nat.blt d N = true)
  (h:∀ w' u,Below w.heap.size w w'→∀ a,Has N D a ((d,u)::l)→wpList Tryz.prog L.toArray Q rest a w'):wpList Tryz.prog L.toArray Q (⟨some d,.buildSlice 87 1 #[(0,x)],ty,pos,af,none⟩::rest) a w:=by
 obtain ⟨inf,hi1,hz,hz1,hz2⟩:∃ i,Tryz.prog.info? 20 = some i∧i.zero = some .nilIface∧i.size = 1∧i.bytes = 16:=by
  have:=T3
  cases hi:Tryz.prog.info? 20 with
  | none=>rw [hi] at this; cases this
  | some i=>rw [hi] at this; simp at this; exact ⟨i,rfl,this.1,this.2.1,this.2.2⟩
 have h1:=H.ev hx;have:=run_buildSlice (P:=Tryz.prog) w 87 20 1 #[(0,.iface t v)] #[.iface t v] inf .nilIface Tryz.underlying87 hi1 hz (by rw [hz1]; decide) (by rw [hz1]; decide) (by rw [hz1]; kernel_rfl);refine Cj H hd (v:=.slice (some ⟨w.heap.size,0,none⟩) 1 1) (w':=w.alloc (.cells #[.iface t v] 20)) (by simp [execOp,h1,this,Result.andThen]) ?_;exact h _ _ ((Below.refl _ w).alloc (Nat.le_refl _) _)
variable {P:Program} {S:World→Prop} {dd:Option Tmp} {gd:Option (Nat × Bool)}
theorem C4 {t e:TypeId} {x i:Operand} {v v':Value} {k:IntKind} {n:Int} (ht:P.underlying t = some (.slice e)) (H:Has N D a l) (hx:ev l x = some v) (hi:ev l i = some (.int k n)) (hr:∀ W,(Instr.slice t v (some (.int k n)) none none).run P W = .ok v' W) :
  ∀ w,S w→(execOp a.eval ⟨dd,.slice t x (some i) none none,ty,pos,af,gd⟩).run P w = .ok (.value v') w:=fun w _=>by
 have h1:=H.ev hx;have h3:=H.ev hi
 have hs:P.underlying t = some (.slice (P.elem t)):=by simp [Program.elem,ht]
 simp [execOp,h1,h3,run_sliceAt_slice w t _ _ _ _ hs,hr w,Result.andThen]
theorem r_uptoZ {t e:TypeId} {x i:Operand} {v v':Value} {k:IntKind} {n:Int} (ht:P.underlying t = some (.slice e)) (H:Has N D a l) (hx:ev l x = some v) (hi:ev l i = some (.int k n)) (hr:∀ W,(Instr.slice t v none (some (.int k n)) none).run P W = .ok v' W) :
  ∀ w,S w→(execOp a.eval ⟨dd,.slice t x none (some i) none,ty,pos,af,gd⟩).run P w = .ok (.value v') w:=fun w _=>by
 have h1:=H.ev hx;have h3:=H.ev hi
 have hs:P.underlying t = some (.slice (P.elem t)):=by simp [Program.elem,ht]
 simp [execOp,h1,h3,run_sliceAt_slice w t _ _ _ _ hs,hr w,Result.andThen]
theorem r_fullZ {t e:TypeId} {x i j:Operand} {v v':Value} {k k':IntKind} {n m:Int} (ht:P.underlying t = some (.slice e)) (H:Has N D a l) (hx:ev l x = some v) (hi:ev l i = some (.int k n)) (hj:ev l j = some (.int k' m)) (hr:∀ W,(Instr.slice t v none (some (.int k n)) (some (.int k' m))).run P W = .ok v' W) :
  ∀ w,S w→(execOp a.eval ⟨dd,.slice t x none (some i) (some j),ty,pos,af,gd⟩).run P w = .ok (.value v') w:=fun w _=>by
 have h1:=H.ev hx;have h3:=H.ev hi;have h4:=H.ev hj
 have hs:P.underlying t = some (.slice (P.elem t)):=by simp [Program.elem,ht]
 simp [execOp,h1,h3,h4,run_sliceAt_slice w t _ _ _ _ hs,hr w,Result.andThen]
theorem S7 {t e:TypeId} {x:Operand} {ao:Option Addr} {n c:Nat} (ht:P.underlying t = some (.slice e)) (H:Has N D a l) (hx:ev l x = some (.slice ao n c)):∀ w,S w→(execOp a.eval ⟨dd,.call { callee:=.builtin .len,args:=#[x],argTypes:=#[t] },ty,pos,af,gd⟩).run P w = .ok (.value (.int .i64 (n:Int))) w:=fun w _=>by
 have h1:=H.ev hx;simp [execOp,resolve,invoke,builtin,h1,Builtin.len_,run_underlying ht,goInt]
theorem N5 {t t':TypeId} {x y:Operand} {m n r:Int} (H:Has N D a l) (hx:ev l x = some (.int .i64 m)) (hy:ev l y = some (.int .i64 n)) (hr:m+n = r) (h0:-9223372036854775808≤r) (h1:r≤9223372036854775807):∀ w,S w→(execOp a.eval ⟨dd,.binOp .add t x y t',ty,pos,af,gd⟩).run P w = .ok (.value (.int .i64 r)) w:=fun w _=>by
 have h2:=H.ev hx;have h3:=H.ev hy;have h4:=Le h0 h1;rw [←hr] at h4 ⊢;simp only [execOp,h2,h3];simp [go_sem,h4]
theorem Tb {src dst:TypeId} {q q':IntKind} {x:Operand} {n:Int} (hs:P.underlying src = some (.int q)) (hds:P.underlying dst = some (.int q')) (H:Has N D a l) (hx:ev l x = some (.int q n)) (hn:q'.wrap n = n):∀ w,S w→(execOp a.eval ⟨dd,.convert src dst x,ty,pos,af,gd⟩).run P w = .ok (.value (.int q' n)) w:=fun w _=>by
 have h1:=H.ev hx;simp only [execOp,h1];simp [Q0 hs hds hn w,Result.andThen]
end
theorem CR {P:Program} {N:Nat} {a:Act} {l:List (Nat × Value)} {w:World} {fn:Func} {t u:Tmp} {v e:Value} {R:Ending→World→Prop} (hres:fn.results = #[.tmp t,.tmp u]) (H:Has N [] a l) (h1:Bf l t = some v) (h2:Bf l u = some e) (hR:R (.returned (.tuple #[v,e])) w):bodyPost P fn R .ret a w:=by
 have e1:=H.get t v h1;have e2:=H.get u e h2
 have h:(results fn a.tmps).run P w = .ok (.tuple #[v,e]) w:=by simp [results,hres,e1,e2]
 exact bodyPost_ret_by h H.defers hR
theorem Q9:Av Tryz.prog 82:=⟨_,Tryz.func82,by kernel_rfl,by kernel_rfl⟩
theorem pf_dec:Av Tryz.prog 71:=⟨_,Tryz.func71,by kernel_rfl,by kernel_rfl⟩
theorem Ci:Av Tryz.prog 47:=⟨_,Tryz.func47,by kernel_rfl,by kernel_rfl⟩
theorem pf_cons:Av Tryz.prog 39:=⟨_,Tryz.func39,by kernel_rfl,by kernel_rfl⟩
theorem Q6:Av Tryz.prog 83:=⟨_,Tryz.func83,by kernel_rfl,by kernel_rfl⟩
theorem Du:Av Tryz.prog 84:=⟨_,Tryz.func84,by kernel_rfl,by kernel_rfl⟩
theorem Lh:Av Tryz.prog 85:=⟨_,Tryz.func85,by kernel_rfl,by kernel_rfl⟩
theorem Lk:Av Tryz.prog 86:=⟨_,Tryz.func86,by kernel_rfl,by kernel_rfl⟩
end
end Go.Proofs.YtgdnpnipahegaaaGreatDoor
