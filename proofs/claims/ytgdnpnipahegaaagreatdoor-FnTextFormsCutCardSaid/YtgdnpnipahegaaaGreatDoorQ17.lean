/-
 strconv.ParseUint at base 8, for 8 bits, of at most three digits of that base: the number, or none where it is too large.
-/
import Derived.Test.YtgdnpnipahegaaaGreatDoorTHex
import Derived.Test.YtgdnpnipahegaaaGreatDoorQ4
namespace Go.Proofs.YtgdnpnipahegaaaGreatDoor
section
open Go.ChangeShapes Go.WideShapes Go.ChangeAt Go.RowKit Go.Lib
def Nd (l:List UInt8):Value:=if 255 < Gy 0 l then .tuple #[.int .u64 255,.iface 101 (.int .i64 1)] else .tuple #[.int .u64 (Gy 0 l:Int),.nilIface]
theorem Kc {l:List UInt8} {n:Nat} (h:Gy 0 l = n) (hn:n≤255):Nd l = .tuple #[.int .u64 (n:Int),.nilIface]:=by subst h; exact if_neg (show ¬ 255 < Gy 0 l by omega)
theorem Kd {l:List UInt8} (h:255 < Gy 0 l):Nd l = .tuple #[.int .u64 255,.iface 101 (.int .i64 1)]:=if_pos h
theorem QR {l:List UInt8} {k acc:Nat} (hk:k < l.length):Gy acc (l.drop k) = Gy (acc * 8+(l[k].toNat - 48)) (l.drop (k+1)):=by
 rw [List.drop_eq_getElem_cons hk]; try rfl
set_option maxRecDepth 100000 in
set_option maxHeartbeats 8000000 in
theorem Hy (l:List UInt8) (w:World) (h1:1≤l.length) (h4:l.length≤3) (ho:∀ c ∈ l,AK c = true) :
  Calls Tryz.prog 76 #[.string ⟨l.toArray⟩,.int .i64 8,.int .i64 8] w fun e w'=>e = .returned (Nd l)∧Below w.heap.size w w':=by
 have hne:l.isEmpty = false:=by
  cases l with
  | nil=>simp at h1
  | cons c l=>rfl
 have hl1:l.length≤3:=h4;have HO:=hid ho;clear h4 ho
 go_enter Tryz.func76,Tryz.ntmps76
 go_wp2_with (first | ((with_reducible refine BT ?_); refine DF _ (by rfl) _ 9 22 5 rfl Tryz.underlying9 Tryz.underlying22 Tryz.underlying5 l rfl (by omega) ?_; intro vb wb hvb hbb) | (refine Am _ rfl _ 22 5 rfl Tryz.underlying22 _ _ _ rfl (by assumption) ?_) | fail)
 go_loop [12,13,101] (fun u n i=>u = .bool false∧∃ k m:Nat,k≤l.length∧m+1≤8 ^ k∧m≤255∧n = .int .u64 (m:Int)∧i = .int .i64 (k:Int)∧Gy 0 l = Gy m (l.drop k)) (fun _ _ i=>l.length - (Go.RowKit.intOf i).toNat)
 case atStart=>exact ⟨rfl,0,0,Nat.zero_le _,by simp,by omega,rfl,rfl,rfl⟩
 case round=>
  obtain ⟨rfl,k,m,hk,hm,hm2,rfl,rfl,hx⟩:=hrel;have HX:=hid hx;clear hx;obtain ⟨ao,cp,rfl⟩:=hvb.slice
  have hkI:(k:Int)≤3:=by omega
  by_cases hlt:k < l.length
  ·have hk4:k < l.length:=hlt
   have hkl:(k:Int).toNat < l.length:=by omega
   have hge:l[(k:Int).toNat]'hkl = l[k]:=by simp
   have hst:=QR (acc:=m) hk4
   have hm3:m≤63:=by have:=Nat.pow_le_pow_right (show 0 < 8 by omega) (show k≤2 by omega); omega
   have hcu:¬ (2305843009213693952:Int)≤(m:Int):=by omega
   have hmm:m * 8+8≤8 ^ (k+1):=by rw [Nat.pow_succ]; omega
   have HM:=hid hmm;have hoc:=HO.out l[k] (List.getElem_mem hk4);clear hmm;generalize hc:l[k] = c at hst hge hoc;unfold AK at hoc;simp at hoc;obtain ⟨d1,d2⟩:=hoc;have bc:=AW c;have HST:=hid hst
   have e1:((c.toNat:Int) == 95) = false:=by simp; omega
   have e2:(48:Int)≤c.toNat:=by omega
   have e3:(c.toNat:Int)≤57:=by omega
   have e4:¬ (8:Int)≤(c.toNat:Int) - 48:=by omega
   clear hst
   by_cases hbig:255 < m * 8+(c.toNat - 48)
   ·have hkk:k+1 = l.length:=by
     have:¬ k+1 < l.length:=by
      intro h;have:=Nat.pow_le_pow_right (show 0 < 8 by omega) (show k≤1 by omega);omega
     omega
    have HF:=hid (Kd (l:=l) (by rw [HX.out,HST.out,List.drop_of_length_le (by omega)]; exact hbig))
    have e5:(255:Int) < (m:Int) * 8+((c.toNat:Int) - 48):=by omega
    clear hkk hbig
    go_wp2_with (first | ((with_reducible refine AA ?_); refine Ae _ rfl _ _ 22 5 rfl Tryz.underlying22 Af _ _ _ rfl hvb _ (k:Int) rfl (by omega) hkl ?_; intro ad1 hc1; rw [hge] at hc1) | fail)
    go_ret2
    exact ⟨by rw [HF.out]; try rfl,hbb⟩
   ·have e5:¬ (255:Int) < (m:Int) * 8+((c.toNat:Int) - 48):=by omega
    have hb255:m * 8+(c.toNat - 48)≤255:=by omega
    have HB:=hid hb255;clear hbig hb255
    go_wp2_with (first | ((with_reducible refine AA ?_); refine Ae _ rfl _ _ 22 5 rfl Tryz.underlying22 Af _ _ _ rfl hvb _ (k:Int) rfl (by omega) hkl ?_; intro ad1 hc1; rw [hge] at hc1) | fail)
    go_round
    case rel=>exact ⟨rfl,k+1,m * 8+(c.toNat - 48),by omega,by have:=HM.out; omega,HB.out,by go_num,by go_num,by rw [HX.out,HST.out]⟩
    case measure=>simp [Go.RowKit.intOf]; omega
  ·have hk4:k = l.length:=by omega
   have HF:Hid (Nd l = .tuple #[.int .u64 (m:Int),.nilIface]):=hid (Kc (by rw [HX.out,List.drop_of_length_le (by omega)]; try rfl) hm2);clear hk4
   go_wp2_with fail
   go_ret2
   exact ⟨by rw [HF.out]; try rfl,hbb⟩
set_option maxRecDepth 100000 in
set_option maxHeartbeats 2000000 in
theorem Lc (fn s:ByteArray) (w:World) (hlim:s.size≤281474976710656) (hv:ErrVar 3 w) :
  Calls Tryz.prog 78 #[.string fn,.string s] w fun e w'=>∃ N,e = .returned (.pointer (some ⟨N,0,none⟩))∧Below w.heap.size w w':=by
 obtain ⟨te,pe,hv⟩:=hv;have hG:3 < w.heap.size:=Lib.lt_of_cell hv;have hvd:w.drew.cell? ⟨3,0,none⟩ = some (.iface te pe):=hv
 go_enter Tryz.func78,Tryz.ntmps78
 go_wp2
 go_region_with (
   go_at_call 92
   refine (MF s _ hlim).mono ?_;rintro e w2 ⟨rfl,hbel⟩
   have hv2:w2.cell? ⟨3,0,none⟩ = some (.iface te pe):=(hbel.cell (show (⟨3,0,none⟩:Addr).block < w.drew.heap.size from hG)).trans hvd)
 all_goals (
  go_wp2
  go_ret
  have hs2:w.heap.size≤w2.heap.size:=hbel.size
  exact ⟨_,rfl,((Below.drew (Below.refl _ w)).trans hbel).alloc hs2 _⟩)
set_option maxRecDepth 100000 in
set_option maxHeartbeats 2000000 in
theorem MU (fn s:ByteArray) (base bs:Int) (w:World) (hlim:s.size≤281474976710656) (hv:ErrVar 3 w) :
  Calls Tryz.prog 70 #[.string fn,.string s,.int .i64 base,.int .i64 bs,.iface 101 (.int .i64 1)] w fun e w'=>∃ N,e = .returned (.iface 106 (.pointer (some ⟨N,0,none⟩)))∧Below w.heap.size w w':=by
 have heq1:∀ W,(binOp .eql 52 (.iface 101 (.int .i64 1)) (.iface 101 (.int .i64 2))).run Tryz.prog W = .ok (.bool false) W:=fun W=>Lib.run_eql_iface_int W 1 2 Tryz.underlying52 (by kernel_rfl) Tryz.underlying101;have heq2:∀ W,(binOp .eql 52 (.iface 101 (.int .i64 1)) (.iface 101 (.int .i64 1))).run Tryz.prog W = .ok (.bool true) W:=fun W=>Lib.run_eql_iface_int W 1 1 Tryz.underlying52 (by kernel_rfl) Tryz.underlying101
 go_enter Tryz.func70,Tryz.ntmps70
 go_wp2_with (go_at_call 78; refine (Lc fn s _ hlim hv).mono ?_; rintro e w2 ⟨N,rfl,hb⟩)
 go_ret
 exact ⟨N,rfl,hb⟩
set_option maxRecDepth 100000 in
theorem LT (l:List UInt8) (n:Nat) (w:World) (h1:1≤l.length) (h4:l.length≤3) (ho:∀ c ∈ l,AK c = true) (hn:Gy 0 l = n) (hle:n≤255) :
  Calls Tryz.prog 84 #[.string ⟨l.toArray⟩,.int .i64 8,.int .i64 8] w fun e w'=>e = .returned (.tuple #[.int .u64 (n:Int),.nilIface])∧Below w.heap.size w w':=by
 have HP:=hid (Hy l w h1 h4 ho);rw [Kc hn hle] at HP
 go_enter Tryz.func84,Tryz.ntmps84
 go_wp2_with (first | (go_at_call 76; refine (Calls.mono HP.out ?_); rintro e w1 ⟨rfl,hb1⟩) | fail)
 go_ret2
 exact ⟨rfl,hb1⟩
set_option maxRecDepth 100000 in
theorem LU (l:List UInt8) (w:World) (h1:1≤l.length) (h4:l.length≤3) (ho:∀ c ∈ l,AK c = true) (hn:255 < Gy 0 l) (hv:ErrVar 3 w) :
  Calls Tryz.prog 84 #[.string ⟨l.toArray⟩,.int .i64 8,.int .i64 8] w fun e w'=>(∃ n t x,e = .returned (.tuple #[.int .u64 n,.iface t x]))∧Below w.heap.size w w':=by
 have HP:=hid (Hy l w h1 h4 ho);rw [Kd hn] at HP
 have hsz:(⟨l.toArray⟩:ByteArray).size≤281474976710656:=by rw [Ez]; omega
 go_enter Tryz.func84,Tryz.ntmps84
 go_wp2_with (first | (go_at_call 76; refine (Calls.mono HP.out ?_); rintro e w1 ⟨rfl,hb1⟩; have hv1:=hv.below hb1) | (go_at_call 70; refine (MU _ _ _ _ _ hsz hv1).mono ?_; rintro e w2 ⟨N,rfl,hb2⟩) | fail)
 go_ret2
 exact ⟨⟨_,_,_,rfl⟩,Ac hb1 hb2⟩
end
section
open Go.ChangeShapes Go.WideShapes Go.ChangeAt Go.RowKit
def encLen (c:Nat):Nat:=if c < 128 then 1 else if c < 2048 then 2 else if c < 65536 then 3 else 4
def u8size (l:List UInt8):Nat:=match BE l with
 | some (_,n)=>n
 | none=>0
def head2 (c:Nat):Option (Nat × Nat):=if 192≤c∧c < 224 then some (1,c % 32) else if 224≤c∧c < 240 then some (2,c % 16) else if 240≤c∧c < 248 then some (3,c % 8) else none
def ok2 (n v:Nat):Bool:=decide (v≤1114111) && !(decide (55296≤v) && decide (v < 57344)) && encLen v == n
def size2:List UInt8→Nat
 | []=>0
 | c::l=>if c.toNat < 128 then 1 else match head2 c.toNat with
  | none=>0
  | some (n,first)=>match B1 n first l with
   | none=>0
   | some v=>if ok2 (n+1) v then n+1 else 0
end
section
open Go.ChangeShapes Go.WideShapes Go.ChangeAt Go.RowKit
theorem Qs:∀ n:Int,0≤n→n < 2 ^ 31→IntKind.i32.wrap n = n:=fun n h0 h1=>IntWalk.i32_in n ⟨by omega,by omega⟩
set_option maxRecDepth 100000 in
theorem Hc (v:Nat) (w:World):Calls Tryz.prog 85 #[.int .i32 (v:Int)] w fun e w'=>e = .returned (.bool (FR v))∧w = w':=by
 have h1:decide ((55296:Int)≤(v:Int)) = decide (55296≤v):=by congr 1; simp; omega
 have h2:decide ((v:Int) < 57344) = decide (v < 57344):=by congr 1; simp; omega
 have HS:Hid (FR v = (decide ((55296:Int)≤(v:Int)) && decide ((v:Int) < 57344))):=hid (by rw [h1,h2]; try rfl);clear h1 h2
 rcases ha:decide ((55296:Int)≤(v:Int)) with _ | _
 ·have HS2:Hid (FR v = false):=hid (by rw [HS.out,ha]; try rfl)
  go_enter Tryz.func85,Tryz.ntmps85
  go_wp2
  go_ret
  exact ⟨by rw [HS2.out]; try rfl,rfl⟩
 ·rcases hb:decide ((v:Int) < 57344) with _ | _
  all_goals
   have HS2:=HS.out;rw [ha,hb] at HS2;replace HS2:=hid HS2
   go_enter Tryz.func85,Tryz.ntmps85
   go_wp2
   go_ret
   exact ⟨by rw [HS2.out]; try rfl,rfl⟩
theorem or_pair (x y:Int) (hx₀:0≤x) (hx₁:x < 1024) (hy₀:0≤y) (hy₁:y < 1024):bits .or .i32 (x * 1024) y = x * 1024+y:=
 bits_join .i32 31 (by decide) Qs 10 (x * 1024) y (by omega) (by omega) (by omega) hy₀ (by omega) (by omega)
def Li (v u:Nat):Bool:=decide (55296≤v) && decide (v < 56320) && decide (56320≤u) && decide (u < 57344)
theorem Oh (v u:Nat):CB v u = if Li v u then (v - 55296) * 1024+(u - 56320)+65536 else 65533:=by
 unfold CB Li;simp [Bool.and_eq_true,and_assoc]
set_option maxRecDepth 100000 in
set_option maxHeartbeats 1000000 in
theorem GQ (v u:Nat) (w:World):Calls Tryz.prog 86 #[.int .i32 (v:Int),.int .i32 (u:Int)] w fun e w'=>e = .returned (.int .i32 (CB v u:Int))∧w = w':=by
 by_cases h:Li v u = true
 ·have HR:=hid (Oh v u);rw [if_pos h] at HR;unfold Li at h;simp only [Bool.and_eq_true,decide_eq_true_eq] at h;obtain ⟨⟨⟨a1,a2⟩,a3⟩,a4⟩:=h
  have b1:decide ((55296:Int)≤(v:Int)) = true:=by simp; omega
  have b2:decide ((v:Int) < 56320) = true:=by simp; omega
  have b3:decide ((56320:Int)≤(u:Int)) = true:=by simp; omega
  have b4:decide ((u:Int) < 57344) = true:=by simp; omega
  have HO:=hid (or_pair ((v:Int) - 55296) ((u:Int) - 56320) (by omega) (by omega) (by omega) (by omega));have H1:=hid a1;have H2:=hid a2;have H3:=hid a3;have H4:=hid a4;clear a1 a2 a3 a4
  go_enter Tryz.func86,Tryz.ntmps86
  go_wp2
  go_ret
  have h1:=H1.out;have h2:=H2.out;have h3:=H3.out;have h4:=H4.out
  have e1:wrap32 ((v:Int) - 55296) = (v:Int) - 55296:=by unfold wrap32; omega
  have e2:wrap32 ((u:Int) - 56320) = (u:Int) - 56320:=by unfold wrap32; omega
  have e3:wrap32 (((v:Int) - 55296) * 1024) = ((v:Int) - 55296) * 1024:=by unfold wrap32; omega
  refine ⟨P0 ?_,rfl⟩
  show wrap32 (bits .or .i32 (wrap32 (wrap32 ((v:Int) - 55296) * 1024)) (wrap32 ((u:Int) - 56320))+65536) = _
  rw [e1,e2,e3,HO.out,HR.out];unfold wrap32;omega
 ·have HR:=hid (Oh v u);rw [if_neg h] at HR
  have hcs:decide ((55296:Int)≤(v:Int)) = false∨decide ((55296:Int)≤(v:Int)) = true∧(decide ((v:Int) < 56320) = false∨decide ((v:Int) < 56320) = true∧(decide ((56320:Int)≤(u:Int)) = false∨decide ((56320:Int)≤(u:Int)) = true∧decide ((u:Int) < 57344) = false)):=by
   unfold Li at h;simp only [Bool.and_eq_true,decide_eq_true_eq] at h;simp only [decide_eq_false_iff_not,decide_eq_true_eq];omega
  clear h
  rcases hcs with b1 | ⟨b1,b2 | ⟨b2,b3 | ⟨b3,b4⟩⟩⟩
  all_goals
   go_enter Tryz.func86,Tryz.ntmps86
   go_wp2
   go_ret
   exact ⟨P0 (by rw [HR.out]; try rfl),rfl⟩
end
end Go.Proofs.YtgdnpnipahegaaaGreatDoor
