/-
  The reference's reader of the text form, walked: its state in memory; a byte ahead; a digit; whether bytes are UTF-8; a character's bytes.
-/
import Derived.Test.YtgdnpnipahegaaaDoorQ2
import Derived.Test.YtgdnpnipahegaaaDoorQ5
import Derived.Deep.RegionWith
namespace Go.Proofs.YtgdnpnipahegaaaDoor
open Go.ChangeShapes Go.WideShapes Go.ChangeAt Go.RowKit
section
theorem Bx {w:World} {g:Nat} {v:Value} {bs:List UInt8} (h:View w g v bs):∃ ao cap,v = .slice ao bs.length cap∧∀ j (hj:j < bs.length),∃ o,ao = some ⟨g,o,none⟩∧w.cell? ⟨g,o+j,none⟩ = some (.int .u8 (bs[j].toNat:Int)):=by
  obtain ⟨ao,cap,hv,h1,h2,hn0,off,h3,h4⟩:=h;exact ⟨ao,cap,hv,fun j hj=>⟨off,h3 (by intro e; subst e; simp at hj),h4 j hj⟩⟩
def G7 (vb:Value) (k:Nat):List Value:=[vb,.int .i64 (k:Int),.int .i64 1,.slice none 0 0]
structure TS (B p g:Nat) (vb:Value) (bs:List UInt8) (k:Nat) (w:World):Prop where
  row:RowAt w p (G7 vb k)
  view:View w g vb bs
  le:k≤bs.length
  bp:B≤p
  gp:g≠p
  gl:g < w.heap.size
section
variable {B p g:Nat} {vb:Value} {bs:List UInt8} {k:Nat} {w:World}
theorem TS.lt (h:TS B p g vb bs k w):p < w.heap.size:=h.row.lt
theorem TS.c (h:TS B p g vb bs k w):w.cell? ⟨p,0,none⟩ = some vb∧w.cell? ⟨p,1,none⟩ = some (.int .i64 (k:Int))∧w.frozen? ⟨p,1,none⟩ = false:=⟨(h.row 0 _ rfl).1,(h.row 1 _ rfl).1,(h.row 1 _ rfl).2⟩
theorem TS.kept {w':World} (h:TS B p g vb bs k w) (hs:w.heap.size≤w'.heap.size) (hp:w'.heap[p]? = w.heap[p]?) (hg:w'.heap[g]? = w.heap[g]?):TS B p g vb bs k w':=
  { h with row:=h.row.kept hp,view:=h.view.kept hg,gl:=Nat.lt_of_lt_of_le h.gl hs }
theorem TS.below {w':World} (h:TS B p g vb bs k w) (hb:Below w.heap.size w w'):TS B p g vb bs k w':=h.kept hb.size (hb.block p h.lt) (hb.block g h.gl)
theorem TS.drewN (h:TS B p g vb bs k w) (n:Nat):TS B p g vb bs k (w.drewN n):=h.below ⟨rfl,rfl,rfl,Nat.le_refl _,fun _ _=>rfl⟩
theorem TS.at (h:TS B p g vb bs k w) {j:Nat} (hj:j≤bs.length):TS B p g vb bs j (w.setCell ⟨p,1,none⟩ (.int .i64 (j:Int))):=by
  have hg:=BU w p 1 (.int .i64 (j:Int));exact { row:=(by have:=h.row.set 1 (by simp [G7]) (.int .i64 (j:Int)); exact this),view:=h.view.kept (hg.block g h.gl (fun e=>h.gp (by injection e))),le:=hj,bp:=h.bp,gp:=h.gp,gl:=Nat.lt_of_lt_of_le h.gl hg.size }
end
def Drew (v:Value) (w:World) (e:Ending) (w':World):Prop:=e = .returned v∧∃ n,w' = w.drewN n
def Ck (bs:List UInt8) (k:Nat):Int:=((bs.getD k 0).toNat:Int)
theorem BN {bs:List UInt8} {k:Nat} (h:k < bs.length):Ck bs k = (bs[k].toNat:Int):=by unfold Ck; simp [List.getD_eq_getElem?_getD,List.getElem?_eq_getElem h]
theorem CF {bs:List UInt8} {k:Nat} (h:bs.length≤k):Ck bs k = 0:=by unfold Ck; simp [List.getD_eq_getElem?_getD,List.getElem?_eq_none h]
set_option maxRecDepth 100000 in
theorem C9 {B p g:Nat} {vb:Value} {bs:List UInt8} {k:Nat} (w:World) (h:TS B p g vb bs k w) (hm:bs.length≤100000000) :
    Calls Tryd.prog 17 #[.pointer (some ⟨p,0,none⟩),.int .i64 0] w (Drew (.int .u8 (Ck bs k)) w):=by
  obtain ⟨c0,c1,-⟩:=h.c;obtain ⟨ao,cap,rfl,hcell⟩:=Bx h.view;have hle:=h.le;have hw1:IntKind.i64.wrap (k:Int) = (k:Int):=IntWalk.i64_in _ (by omega)
  by_cases hlt:k < bs.length
  · have HB:=hid (BN hlt)
    obtain ⟨o,rfl,hck⟩:=hcell k hlt
    have hltI:decide ((k:Int) < (bs.length:Int)) = true:=by simp; omega
    generalize bs[k] = c at *;clear h hcell
    go_enter Tryd.func17,Tryd.ntmps17
    go_wp2_with fail
    go_quiet (fail)
    go_wp2_with fail
    go_quiet (fail)
    go_wp2_with fail
    go_ret
    exact ⟨by rw [HB.out]; try rfl,_,World.drewN_drewN ..⟩
  · have HB:=hid (CF (bs:=bs) (k:=k) (by omega))
    have hltI:decide ((k:Int) < (bs.length:Int)) = false:=by simp; omega
    clear h hcell
    go_enter Tryd.func17,Tryd.ntmps17
    go_wp2_with fail
    go_quiet (fail)
    go_wp2_with fail
    go_ret
    exact ⟨by rw [HB.out]; try rfl,_,rfl⟩
def CV (z:Int):Int:=if 48≤z∧z≤57 then z - 48 else if 97≤z∧z≤102 then z - 87 else if 65≤z∧z≤70 then z - 55 else -1
set_option maxRecDepth 100000 in
theorem Dd (z:Int) (w:World) (h0:0≤z) (h1:z < 256):Calls Tryd.prog 18 #[.int .u8 z] w fun e w'=>e = .returned (.int .i64 (CV z))∧w = w':=by
  by_cases a:48≤z∧z≤57
  · have HH:Hid (CV z = z - 48):=hid (by unfold CV; rw [if_pos a])
    obtain ⟨a1,a2⟩:=a
    go_enter Tryd.func18,Tryd.ntmps18
    go_wp2_with fail
    go_ret
    exact ⟨by rw [HH.out]; try rfl,rfl⟩
  · have hA:decide (48≤z) = false∨decide (48≤z) = true∧decide (z≤57) = false:=by simp; omega
    by_cases b:97≤z∧z≤102
    · have HH:Hid (CV z = z - 97+10):=hid (by unfold CV; rw [if_neg a,if_pos b]; omega)
      obtain ⟨b1,b2⟩:=b;clear a
      rcases hA with a1 | ⟨a1,a2⟩
      all_goals
        go_enter Tryd.func18,Tryd.ntmps18
        go_wp2_with fail
        go_ret
        exact ⟨by rw [HH.out]; try rfl,rfl⟩
    · have hB:decide (97≤z) = false∨decide (97≤z) = true∧decide (z≤102) = false:=by simp; omega
      by_cases d:65≤z∧z≤70
      · have HH:Hid (CV z = z - 65+10):=hid (by unfold CV; rw [if_neg a,if_neg b,if_pos d]; omega)
        obtain ⟨d1,d2⟩:=d;clear a b
        rcases hA with a1 | ⟨a1,a2⟩ <;> rcases hB with b1 | ⟨b1,b2⟩
        all_goals
          first
            | (exfalso; simp at *; omega)
            | (go_enter Tryd.func18,Tryd.ntmps18
               go_wp2_with fail
               go_ret
               exact ⟨by rw [HH.out]; try rfl,rfl⟩)
      · have hD:decide (65≤z) = false∨decide (65≤z) = true∧decide (z≤70) = false:=by simp; omega
        have HH:Hid (CV z = -1):=hid (by unfold CV; rw [if_neg a,if_neg b,if_neg d]);clear a b d
        rcases hA with a1 | ⟨a1,a2⟩ <;> rcases hB with b1 | ⟨b1,b2⟩ <;> rcases hD with d1 | ⟨d1,d2⟩
        all_goals
          go_enter Tryd.func18,Tryd.ntmps18
          go_wp2_with fail
          go_ret
          exact ⟨by rw [HH.out]; try rfl,rfl⟩
set_option maxRecDepth 100000 in
set_option maxHeartbeats 1000000 in
theorem Ey (v:Value) (l:List UInt8) (g:Nat) (w:World) (hv:View w g v l) (hm:l.length≤1000000) :
    Calls Tryd.prog 11 #[v] w fun e w'=>e = .returned (.bool (Bc l))∧Below w.heap.size w w':=by
  have HV:=hid hv;clear hv
  go_enter Tryd.func11,Tryd.ntmps11
  go_wp2_with fail
  go_loopw [3] (fun i wr=>∃ k:Nat,k≤l.length∧i = .int .i64 (k:Int)∧Bc l = Bc (l.drop k)∧Below w.heap.size w wr) (fun i _=>l.length - (intOf i).toNat)
  case atStart=>exact ⟨0,Nat.zero_le _,rfl,rfl,Below.refl _ _⟩
  case round=>
    obtain ⟨k,hk,rfl,hu,hb⟩:=hrel;have HU:=hid hu;have HB:=hid hb;have HVR:=hid (HV.out.below hb);clear hu hb
    by_cases hlt:k < l.length
    · have hkI:(k:Int)≤(l.length:Int):=by omega
      have hltI:decide ((k:Int) < (l.length:Int)) = true:=by simp; omega
      have hltN:decide (k < l.length) = true:=by simp; omega
      rcases hd:l.drop k with _ | ⟨c,r⟩
      · exfalso; have:=congrArg List.length hd; simp at this; omega
      · have hcl:(c::r).length≤1000000:=by rw [←hd]; simp; omega
        have hkr:k+(r.length+1) = l.length:=by have:=congrArg List.length hd; simp at this; omega
        have HSZ:=hid (Hb (c::r));have HD:=hid hd;clear hd
        rcases hu:An (c::r) with _ | ⟨x,n⟩
        · have HZ:Hid (AZ (c::r) = 0):=hid (by rw [←HSZ.out]; unfold E8; rw [hu])
          have HF:Hid (Bc l = false):=hid (by rw [HU.out,HD.out]; exact D5 (by simp) hu);clear hu
          go_wp2_with (first
            | ((with_reducible refine Cy ?_); refine Al _ (by rfl) _ 27 5 rfl Tryd.underlying27 _ _ _ rfl HVR.out ?_)
            | ((with_reducible refine Db ?_); refine AD _ (by rfl) _ _ 27 5 rfl Tryd.underlying27 Ab _ _ _ rfl HVR.out _ _ rfl (by omega) hkI ?_; intro vs1 hvs1; rw [Int.toNat_natCast,HD.out] at hvs1)
            | (go_at_call 16; refine (C4 _ c r g _ hvs1 hcl).mono ?_; rintro e w1 ⟨rfl,hb1⟩; rw [HZ.out])
            | fail)
          go_ret
          exact ⟨by rw [HF.out]; try rfl,Aa HB.out hb1⟩
        · have hn:=At hu
          have HZ:Hid (AZ (c::r) = n):=hid (by rw [←HSZ.out]; unfold E8; rw [hu]);have HF:Hid (Bc l = Bc (l.drop (k+n))):=hid (by rw [HU.out,HD.out,CP hu,←HD.out,List.drop_drop]);have hn1:1≤n:=hn.1
          have hn2:n≤r.length+1:=by simpa using hn.2.1
          have hnz:((n:Int) == 0) = false:=by simp; omega
          clear hu hn
          go_wp2_with (first
            | ((with_reducible refine Cy ?_); refine Al _ (by rfl) _ 27 5 rfl Tryd.underlying27 _ _ _ rfl HVR.out ?_)
            | ((with_reducible refine Db ?_); refine AD _ (by rfl) _ _ 27 5 rfl Tryd.underlying27 Ab _ _ _ rfl HVR.out _ _ rfl (by omega) hkI ?_; intro vs1 hvs1; rw [Int.toNat_natCast,HD.out] at hvs1)
            | (go_at_call 16; refine (C4 _ c r g _ hvs1 hcl).mono ?_; rintro e w1 ⟨rfl,hb1⟩; rw [HZ.out])
            | fail)
          go_roundw
          case rel=>exact ⟨k+n,by omega,by go_num,HF.out,Aa HB.out hb1⟩
          case measure=>simp [intOf]; omega
    · have HF:Hid (Bc l = true):=hid (by rw [HU.out,List.drop_of_length_le (by omega)]; try rfl)
      have hltN:decide (k < l.length) = false:=by simp; omega
      have hltI:decide ((k:Int) < (l.length:Int)) = false:=by simp; omega
      go_wp2_with (first
        | ((with_reducible refine Cy ?_); refine Al _ (by rfl) _ 27 5 rfl Tryd.underlying27 _ _ _ rfl HVR.out ?_)
        | fail)
      go_ret
      exact ⟨by rw [HF.out]; try rfl,HB.out⟩
set_option maxRecDepth 100000 in
theorem Ex (c:Nat) (w:World) (hc:c < 2097152) :
    Calls Tryd.prog 33 #[.int .i64 c] w fun e w'=>(∃ v,e = .returned v∧View w' w.heap.size v (AA c))∧Below w.heap.size w w':=by
  have hb0:=Below.refl w.heap.size w
  by_cases h1:(c:Int) < 128
  · have HE:Hid (AA c = [UInt8.ofNat c]):=hid (by unfold AA; rw [if_pos (by omega)])
    go_enter Tryd.func33,Tryd.ntmps33
    go_wp2_with fail
    go_ret
    refine ⟨⟨_,rfl,?_⟩,hb0.alloc (Nat.le_refl _) _⟩;rw [HE.out];exact A7 w [UInt8.ofNat c] _ _ (by simp [byteCells]; omega) (by simp [maxLen])
  · have hB:=BL (x:=c) (by omega) (by omega)
    have hC:=BK (y:=(c:Int) % 64) (by omega) (by omega);have hB2:=BL (x:=(c:Int) / 64) (by omega) (by omega);have hC2:=BK (y:=(c:Int) / 64 % 64) (by omega) (by omega);have hB3:=BL (x:=(c:Int) / 4096) (by omega) (by omega);have hC3:=BK (y:=(c:Int) / 4096 % 64) (by omega) (by omega)
    by_cases h2:(c:Int) < 2048
    · have HE:Hid (AA c = [UInt8.ofNat (192+c / 64),UInt8.ofNat (128+c % 64)]):=hid (by unfold AA; rw [if_neg (by omega),if_pos (by omega)])
      have hA:=EX (y:=(c:Int) / 64) (by omega) (by omega)
      go_enter Tryd.func33,Tryd.ntmps33
      go_wp2_with fail
      go_ret
      refine ⟨⟨_,rfl,?_⟩,hb0.alloc (Nat.le_refl _) _⟩;rw [HE.out];exact A7 w [UInt8.ofNat (192+c / 64),UInt8.ofNat (128+c % 64)] _ _ (by simp [byteCells]; omega) (by simp [maxLen])
    · by_cases h3:(c:Int) < 65536
      · have HE:Hid (AA c = [UInt8.ofNat (224+c / 4096),UInt8.ofNat (128+c / 64 % 64),UInt8.ofNat (128+c % 64)]):=hid (by unfold AA; rw [if_neg (by omega),if_neg (by omega),if_pos (by omega)])
        have hA:=EW (y:=(c:Int) / 4096) (by omega) (by omega)
        go_enter Tryd.func33,Tryd.ntmps33
        go_wp2_with fail
        go_ret
        refine ⟨⟨_,rfl,?_⟩,hb0.alloc (Nat.le_refl _) _⟩;rw [HE.out];exact A7 w [UInt8.ofNat (224+c / 4096),UInt8.ofNat (128+c / 64 % 64),UInt8.ofNat (128+c % 64)] _ _ (by simp [byteCells]; omega) (by simp [maxLen])
      · have HE:Hid (AA c = [UInt8.ofNat (240+c / 262144),UInt8.ofNat (128+c / 4096 % 64),UInt8.ofNat (128+c / 64 % 64),UInt8.ofNat (128+c % 64)]):=hid (by unfold AA; rw [if_neg (by omega),if_neg (by omega),if_neg (by omega)])
        have hA:=EV (y:=(c:Int) / 262144) (by omega) (by omega)
        go_enter Tryd.func33,Tryd.ntmps33
        go_wp2_with fail
        go_ret
        refine ⟨⟨_,rfl,?_⟩,hb0.alloc (Nat.le_refl _) _⟩;rw [HE.out];exact A7 w [UInt8.ofNat (240+c / 262144),UInt8.ofNat (128+c / 4096 % 64),UInt8.ofNat (128+c / 64 % 64),UInt8.ofNat (128+c % 64)] _ _ (by simp [byteCells]; omega) (by simp [maxLen])
end
section
def ptN:Nat→Nat→List UInt8→Option Nat
 | acc,0,_=>some acc
 | _,_+1,[]=>none
 | acc,d+1,c::l=>if AH c.toNat < 16 then ptN (acc * 16+AH c.toNat) d l else none
theorem Hh:∀ (d acc:Nat) (l:List UInt8),ptN acc d l = if l.length < d then none else As acc (l.take d)
 | 0,acc,l=>by rw [if_neg (by omega),List.take_zero]; try rfl
 | d+1,acc,[]=>by rw [if_pos (by simp)]; try rfl
 | d+1,acc,c::l=>by
  rw [List.take_succ_cons,ptN,As]
  by_cases h:AH c.toNat < 16
  ·rw [if_pos h,if_pos h,Hh d _ l];simp only [List.length_cons,Nat.add_lt_add_iff_right]
  ·rw [if_neg h,if_neg h]; split <;> rfl
theorem ES (d:Nat) (l:List UInt8):A9 d l = match ptN 0 d l with
  | none=>none
  | some v=>if 1114111 < v∨(55296≤v∧v < 57344) then some ([],1+d,2) else some (AA v,1+d,1):=by
 unfold A9;rw [Hh]
 by_cases h:l.length < d
 ·rw [if_pos h,if_pos h]
 ·rw [if_neg h,if_neg h]; cases As 0 (List.take d l) <;> rfl
theorem Hg {l:List UInt8} {j m d:Nat} (hj:j < l.length) (hd:j < d):ptN m (d - j) (l.drop j) = if AH l[j].toNat < 16 then ptN (m * 16+AH l[j].toNat) (d - (j+1)) (l.drop (j+1)) else none:=by
 rw [List.drop_eq_getElem_cons hj,show d - j = (d - (j+1))+1 by omega,ptN]
theorem ptN_end {l:List UInt8} {j m d:Nat} (hj:l.length≤j) (hd:j < d):ptN m (d - j) (l.drop j) = none:=by
 rw [List.drop_of_length_le hj,show d - j = (d - (j+1))+1 by omega]; try rfl
theorem Hs:∀ c:Fin 256,CV (c.val:Int) = if AH c.val < 16 then (AH c.val:Int) else -1:=by decide +kernel
theorem DA (c:UInt8):CV (c.toNat:Int) = if AH c.toNat < 16 then (AH c.toNat:Int) else -1:=Hs ⟨c.toNat,c.toNat_lt⟩
def Grw (p:Nat) (w w':World):Prop:=w.grownBy w' (some p)
theorem Grw.refl (p:Nat) (w:World):Grw p w w:=B3 (Below.refl _ _) _
theorem Grw.trans {p:Nat} {a b c:World} (h1:Grw p a b) (h2:Grw p b c):Grw p a c:=show a.grownBy c (some p) from
 ⟨(World.grownBy.os h2).trans (World.grownBy.os h1),(World.grownBy.tape h2).trans (World.grownBy.tape h1),(World.grownBy.output h2).trans (World.grownBy.output h1),Nat.le_trans (World.grownBy.size h1) (World.grownBy.size h2),
  fun k hk hne=>(World.grownBy.block h2 k (Nat.lt_of_lt_of_le hk (World.grownBy.size h1)) hne).trans (World.grownBy.block h1 k hk hne)⟩
theorem Grw.thenBelow {p:Nat} {a b c:World} (h1:Grw p a b) (h2:Below b.heap.size b c):Grw p a c:=h1.trans (B3 h2 _)
theorem Grw.drewN {p:Nat} {a b:World} (h:Grw p a b) (n:Nat):Grw p a (b.drewN n):=h.thenBelow ⟨rfl,rfl,rfl,Nat.le_refl _,fun _ _=>rfl⟩
theorem Grw.alloc {p:Nat} {a b:World} (h:Grw p a b) (o:Obj):Grw p a (b.alloc o):=h.thenBelow ((Below.refl _ _).alloc (Nat.le_refl _) _)
theorem Grw.set {p:Nat} {a b:World} (h:Grw p a b) (o:Nat) (v:Value):Grw p a (b.setCell ⟨p,o,none⟩ v):=h.trans (BU b p o v)
theorem Grw.below {p B:Nat} {a b:World} (h:Grw p a b) (hp:B≤p) (hB:B≤a.heap.size):Below B a b:=
 ⟨World.grownBy.os h,World.grownBy.tape h,World.grownBy.output h,World.grownBy.size h,fun k hk=>World.grownBy.block h k (by omega) (fun e=>by injection e with e; omega)⟩
def Fx (w:World) (v:Value) (x:List UInt8):Prop:=∃ g,View w g v x
def EscRes (B p g:Nat) (vb:Value) (bs:List UInt8) (k:Nat) (w:World) (o:Option (List UInt8 × Nat × Nat)) (e:Ending) (w':World):Prop:=match o with
 | none=>(∃ v,e = .returned (.tuple #[v,.int .i64 0]))∧Grw p w w'
 | some (x,n,ok)=>∃ v,e = .returned (.tuple #[v,.int .i64 (ok:Int)])∧Fx w' v x∧TS B p g vb bs (k+n) w'∧Grw p w w'
theorem EscRes.no {B p g:Nat} {vb:Value} {bs:List UInt8} {k:Nat} {w w':World} {o:Option (List UInt8 × Nat × Nat)} (h:o = none) (v:Value) (hb:Grw p w w'):EscRes B p g vb bs k w o (.returned (.tuple #[v,.int .i64 0])) w':=by rw [h]; exact ⟨⟨v,rfl⟩,hb⟩
theorem EscRes.yes {B p g:Nat} {vb:Value} {bs:List UInt8} {k:Nat} {w w':World} {o:Option (List UInt8 × Nat × Nat)} {x:List UInt8} {n ok:Nat} (h:o = some (x,n,ok)) (v:Value) (h1:Fx w' v x) (h2:TS B p g vb bs (k+n) w') (hb:Grw p w w'):EscRes B p g vb bs k w o (.returned (.tuple #[v,.int .i64 (ok:Int)])) w':=by
 rw [h]; exact ⟨v,rfl,h1,h2,hb⟩
theorem TS.atZ {B p g:Nat} {vb:Value} {bs:List UInt8} {k:Nat} {w:World} (h:TS B p g vb bs k w) {j:Nat} (z:Int) (hz:z = (j:Int)) (hj:j≤bs.length):TS B p g vb bs j (w.setCell ⟨p,1,none⟩ (.int .i64 z)):=by
 subst hz; exact h.at hj
def pOk (v:Nat):List UInt8 × Nat:=if 1114111 < v∨(55296≤v∧v < 57344) then ([],2) else (AA v,1)
def PtRes (B p g:Nat) (vb:Value) (bs:List UInt8) (k:Nat) (w:World) (o:Option Nat) (e:Ending) (w':World):Prop:=match o with
 | none=>(∃ v,e = .returned (.tuple #[v,.int .i64 0]))∧Grw p w w'
 | some v=>∃ v',e = .returned (.tuple #[v',.int .i64 ((pOk v).2:Int)])∧Fx w' v' (pOk v).1∧TS B p g vb bs k w'∧Grw p w w'
theorem PtRes.no {B p g:Nat} {vb:Value} {bs:List UInt8} {k:Nat} {w w':World} {o:Option Nat} (h:o = none) (v:Value) (hb:Grw p w w'):PtRes B p g vb bs k w o (.returned (.tuple #[v,.int .i64 0])) w':=by rw [h]; exact ⟨⟨v,rfl⟩,hb⟩
theorem PtRes.yes {B p g:Nat} {vb:Value} {bs:List UInt8} {k:Nat} {w w':World} {o:Option Nat} {v:Nat} (h:o = some v) (v':Value) (z:Int) (x:List UInt8) (hz:z = ((pOk v).2:Int)) (hx:x = (pOk v).1) (h1:Fx w' v' x) (h2:TS B p g vb bs k w') (hb:Grw p w w'):PtRes B p g vb bs k w o (.returned (.tuple #[v',.int .i64 z])) w':=by
 subst hz hx; rw [h]; exact ⟨v',rfl,h1,h2,hb⟩
set_option maxRecDepth 100000 in
set_option maxHeartbeats 4000000 in
theorem ER {B p g:Nat} {vb:Value} {bs:List UInt8} {k:Nat} (d:Nat) (hd:d≤8) (w:World) (h:TS B p g vb bs k w) (hm:bs.length≤100000000) :
  Calls Tryd.prog 19 #[.pointer (some ⟨p,0,none⟩),.int .i64 (d:Int)] w (PtRes B p g vb bs (k+d) w (ptN 0 d (bs.drop k))):=by
 have H0:=hid h;have hle:=h.le;clear h
 go_enter Tryd.func19,Tryd.ntmps19
 go_wp2_with fail
 go_loopw [6,9] (fun u i wr=>∃ j m:Nat,j≤d∧m+1≤16 ^ j∧u = .int .i64 (m:Int)∧i = .int .i64 (j:Int)∧ptN 0 d (bs.drop k) = ptN m (d - j) ((bs.drop k).drop j)∧TS B p g vb bs (k+j) wr∧Grw p w wr) (fun _ i _=>d - (intOf i).toNat)
 case atStart=>exact ⟨0,0,Nat.zero_le _,by simp,rfl,rfl,rfl,H0.out,Grw.refl _ _⟩
 case round=>
  obtain ⟨j,m,hj,hmm,rfl,rfl,hpt,hts,hb⟩:=hrel;have HT:=hid hts;have HB:=hid hb;have HPT:=hid hpt;obtain ⟨c0,c1,f1⟩:=hts.c;have hkle:=hts.le;obtain ⟨ao,cap,rfl,hcell⟩:=Bx hts.view;have HP:=hid (C9 wr hts hm);clear hts hb hpt hcell;obtain ⟨q,hq⟩:∃ q,q = k+j:=⟨_,rfl⟩;rw [←hq] at HT c1 HP hkle;have HQ:=hid hq;clear hq
  have hmb:m≤4294967295:=by have:=Nat.pow_le_pow_right (show 0 < 16 by omega) (show j≤8 by omega); omega
  by_cases hjd:j < d
  ·have hm28:m≤268435455:=by have:=Nat.pow_le_pow_right (show 0 < 16 by omega) (show j≤7 by omega); omega
   have HMM:=hid hmm;clear hmm
   by_cases hlt:q < bs.length
   ·rw [BN hlt] at HP
    have hjl:j < (bs.drop k).length:=by have:=HQ.out; simp; omega
    have hcc:(bs.drop k)[j] = bs[q]:=by have:=HQ.out; subst this; simp
    have hst:=Hg (m:=m) hjl hjd;rw [hcc] at hst;have hhx:=DA bs[q];generalize bs[q] = c at *;have bc:=Ao c
    by_cases hv:AH c.toNat < 16
    ·rw [if_pos hv] at hst hhx;obtain ⟨x,hx⟩:∃ x,x = AH c.toNat:=⟨_,rfl⟩;rw [←hx] at hst hhx hv;have HST:=hid hst;have HHX:=hid hhx
     have hg1:decide ((x:Int) < 0) = false:=by simp
     have hg2:decide ((bs.length:Int)≤(q:Int)) = false:=by simp; omega
     clear hst hhx hx hcc
     go_wp2_with (first
      | (go_at_call 17; refine (Calls.mono HP.out ?_); rintro e w1 ⟨rfl,n1,rfl⟩)
      | (go_at_call 18; refine (Dd _ _ bc.1 bc.2).mono ?_; rintro e w1 ⟨rfl,rfl⟩; rw [HHX.out])
      | fail)
     go_quiet (fail)
     go_wp2_with fail
     go_roundw
     case rel=>
      refine ⟨j+1,m * 16+x,by omega,?_,by go_num,by go_num,by rw [HPT.out,HST.out],?_,(HB.out.drewN _).set _ _⟩
      ·have:=HMM.out;rw [Nat.pow_succ]; omega
      ·exact (HT.out.drewN _).atZ ((q:Int)+1) (by have:=HQ.out; omega) (by have:=HQ.out; omega)
     case measure=>simp [intOf]; omega
    ·rw [if_neg hv] at hst hhx;have HN:=hid (HPT.out.trans hst);have HHX:=hid hhx;clear hst hhx hcc hv
     go_wp2_with (first
      | (go_at_call 17; refine (Calls.mono HP.out ?_); rintro e w1 ⟨rfl,n1,rfl⟩)
      | (go_at_call 18; refine (Dd _ _ bc.1 bc.2).mono ?_; rintro e w1 ⟨rfl,rfl⟩; rw [HHX.out])
      | fail)
     go_quiet (fail)
     go_wp2_with fail
     go_ret2
     exact PtRes.no HN.out _ ((HB.out.drewN _).drewN _)
   ·rw [CF (by omega)] at HP;have HN:=hid (HPT.out.trans (ptN_end (by have:=HQ.out; simp; omega) hjd));have HHX:Hid (CV 0 = -1):=hid (by decide)
    go_wp2_with (first
     | (go_at_call 17; refine (Calls.mono HP.out ?_); rintro e w1 ⟨rfl,n1,rfl⟩)
     | (go_at_call 18; refine (Dd _ _ (by decide) (by decide)).mono ?_; rintro e w1 ⟨rfl,rfl⟩; rw [HHX.out])
     | fail)
    go_quiet (fail)
    go_wp2_with fail
    go_ret2
    exact PtRes.no HN.out _ ((HB.out.drewN _).drewN _)
  ·have hjd':j = d:=by omega
   have HR:Hid (ptN 0 d (bs.drop k) = some m):=hid (by rw [HPT.out,hjd',Nat.sub_self]; try rfl);have HTE:Hid (TS B p g (.slice ao bs.length cap) bs (k+d) wr):=hid (by have:=HT.out; rw [HQ.out,hjd'] at this; exact this);clear hmm hjd'
   have hjI:decide ((j:Int) < (d:Int)) = false:=by simp; omega
   have hjN:decide (j < d) = false:=by simp; omega
   by_cases hbig:1114111 < m∨(55296≤m∧m < 57344)
   ·have HO:Hid (pOk m = ([],2)):=hid (by unfold pOk; rw [if_pos hbig])
    have hcs:decide ((1114111:Int) < (m:Int)) = true∨decide ((1114111:Int) < (m:Int)) = false∧decide ((55296:Int)≤(m:Int)) = true∧decide ((m:Int) < 57344) = true:=by simp; omega
    clear hbig
    rcases hcs with q1 | ⟨q1,q2,q3⟩
    all_goals
     go_wp2_with fail
     go_ret2
     exact PtRes.yes HR.out _ _ [] (by rw [HO.out]; try rfl) (by rw [HO.out]) ⟨0,View.nilOf⟩ HTE.out HB.out
   ·have HO:Hid (pOk m = (AA m,1)):=hid (by unfold pOk; rw [if_neg hbig])
    have hcs:decide ((1114111:Int) < (m:Int)) = false∧(decide ((55296:Int)≤(m:Int)) = false∨decide ((55296:Int)≤(m:Int)) = true∧decide ((m:Int) < 57344) = false):=by simp; omega
    have hm21:m < 2097152:=by omega
    clear hbig;obtain ⟨q1,hcs⟩:=hcs
    rcases hcs with q2 | ⟨q2,q3⟩
    all_goals
     go_wp2_with (first
      | (go_at_call 33; refine (Ex m _ hm21).mono ?_; rintro e w1 ⟨⟨v1,rfl,hv1⟩,hb1⟩; have HV1:=hid hv1; have HB1:=hid hb1; clear hv1 hb1)
      | fail)
     go_ret2
     exact PtRes.yes HR.out _ _ (AA m) (by rw [HO.out]; try rfl) (by rw [HO.out]) ⟨_,HV1.out⟩ (HTE.out.below HB1.out) (HB.out.thenBelow HB1.out)
end
end Go.Proofs.YtgdnpnipahegaaaDoor
