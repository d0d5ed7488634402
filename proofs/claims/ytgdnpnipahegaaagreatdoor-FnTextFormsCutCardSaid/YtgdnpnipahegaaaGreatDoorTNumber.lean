/-
 The package's reader of the text form, walked: a number.
-/
import Derived.Test.YtgdnpnipahegaaaGreatDoorQ9
import Derived.Test.YtgdnpnipahegaaaGreatDoorTIdent
import Derived.Test.YtgdnpnipahegaaaGreatDoorQ6
namespace Go.Proofs.YtgdnpnipahegaaaGreatDoor
open Go.ChangeShapes Go.WideShapes Go.ChangeAt Go.RowKit
theorem Mr {c:UInt8} (h:AZ c = true):(48:Int)≤c.toNat∧(c.toNat:Int)≤57:=(Ms c).1 h
theorem Od {c:UInt8} (h:AZ c = false):¬ (48:Int)≤c.toNat∨((48:Int)≤c.toNat∧¬ (c.toNat:Int)≤57):=by unfold AZ at h; simp at h; omega
theorem Sh {c:UInt8} (h:AG c = true):(48:Int)≤c.toNat∧(c.toNat:Int)≤55:=by unfold AG at h; simp at h; omega
theorem TV {c:UInt8} (h:AG c = false):¬ (48:Int)≤c.toNat∨((48:Int)≤c.toNat∧¬ (c.toNat:Int)≤55):=by unfold AG at h; simp at h; omega
theorem Si {c:UInt8} (h:AQ c = true):((48:Int)≤c.toNat∧(c.toNat:Int)≤57)∨((48:Int)≤c.toNat∧¬ (c.toNat:Int)≤57∧(97:Int)≤c.toNat∧(c.toNat:Int)≤102)∨((48:Int)≤c.toNat∧¬ (c.toNat:Int)≤57∧¬ (97:Int)≤c.toNat∧(65:Int)≤c.toNat∧(c.toNat:Int)≤70):=by unfold AQ at h; simp at h; omega
theorem T0 {c:UInt8} (h:AQ c = false):(¬ (48:Int)≤c.toNat∧¬ (97:Int)≤c.toNat∧¬ (65:Int)≤c.toNat)∨((48:Int)≤c.toNat∧¬ (c.toNat:Int)≤57∧¬ (97:Int)≤c.toNat∧¬ (65:Int)≤c.toNat)∨((48:Int)≤c.toNat∧¬ (c.toNat:Int)≤57∧¬ (97:Int)≤c.toNat∧(65:Int)≤c.toNat∧¬ (c.toNat:Int)≤70)∨((48:Int)≤c.toNat∧¬ (c.toNat:Int)≤57∧(97:Int)≤c.toNat∧¬ (c.toNat:Int)≤102∧(65:Int)≤c.toNat∧¬ (c.toNat:Int)≤70):=by unfold AQ at h; simp at h; omega
def QO (o:Option NT) (w:World) (e:Ending) (w':World):Prop:=e = .returned (numV o)∧Below w.heap.size w w'
def R8 (neg:Bool) (sz sep:Nat):Option (Nat × Nat)→Option NT
 | none=>none
 | some (k,n)=>some ⟨k,neg,sz+n,sep⟩
theorem Mb {c:UInt8} (r:List UInt8) (h:c.toNat = 45):EP (c::r) = R8 true (1+skT false r) (skT false r) (Cs (r.drop (skT false r))):=by
 rw [DC,if_pos h]
 rcases Cs (r.drop (skT false r)) with _ | ⟨k,n⟩ <;> rfl
theorem Qr {c:UInt8} (r:List UInt8) (h:c.toNat≠45):EP (c::r) = R8 false 0 0 (Cs (c::r)):=by
 rw [DC,if_neg h]
 rcases Cs (c::r) with _ | ⟨k,n⟩
 ·rfl
 ·simp [R8]
def ptB:List UInt8→Bool
 | []=>false
 | c::_=>c.toNat == 46
def exB:List UInt8→Bool
 | c::_::_=>isE c
 | _=>false
def sfB:List UInt8→Bool
 | []=>false
 | c::_=>isF c
theorem Rl (c:UInt8):isE c = true↔c.toNat = 101∨c.toNat = 69:=by unfold isE; simp
theorem Rk (c:UInt8):isF c = true↔c.toNat = 102∨c.toNat = 70:=by unfold isF; simp
theorem PD (c:UInt8):Ie c = true↔c.toNat = 43∨c.toNat = 45:=by unfold Ie; simp
theorem Qt {kind n:Nat} {s:List UInt8} (h:Ev kind s = none):BX kind n s = none:=by unfold BX; rw [h]
def Ky (n n1 k1:Nat) (s:List UInt8):Option (Nat × Nat):=match He k1 (s.drop n1) with
  | none=>none
  | some (k2,n2)=>if Eo (s.drop (n1+n2+(Fq k2 (s.drop (n1+n2))).2)) then some ((Fq k2 (s.drop (n1+n2))).1,n+n1+n2+(Fq k2 (s.drop (n1+n2))).2) else none
theorem KU {kind n k1 n1:Nat} {s:List UInt8} (h:Ev kind s = some (k1,n1)):BX kind n s = Ky n n1 k1 s:=by unfold BX Ky; rw [h]; rfl
def Qu (n m k2:Nat) (s:List UInt8):Option (Nat × Nat):=if Eo (s.drop (m+(Fq k2 (s.drop m)).2)) then some ((Fq k2 (s.drop m)).1,n+m+(Fq k2 (s.drop m)).2) else none
theorem Qv {n n1 k1 k2 n2:Nat} {s:List UInt8} (h:He k1 (s.drop n1) = some (k2,n2)):Ky n n1 k1 s = Qu n (n1+n2) k2 s:=by unfold Ky Qu; rw [h]; simp only [Nat.add_assoc]
theorem Px {n n1 k1:Nat} {s:List UInt8} (h:He k1 (s.drop n1) = none):Ky n n1 k1 s = none:=by unfold Ky; rw [h]
theorem Rg {c:UInt8} {l:List UInt8} (h1:c.toNat≠48) (h2:¬ (49≤c.toNat∧c.toNat≤57)) (h3:c.toNat≠46):Cs (c::l) = none:=by rw [CP,if_neg h1,if_neg h2,if_neg h3]
theorem numB_dg {c:UInt8} (l:List UInt8) (h1:49≤c.toNat) (h2:c.toNat≤57):Cs (c::l) = BX 0 (1+As AZ l) (l.drop (As AZ l)):=by rw [CP,if_neg (by omega),if_pos ⟨h1,h2⟩]
theorem numB_pt {c:UInt8} (l:List UInt8) (h1:c.toNat = 46):Cs (c::l) = BX 4 0 (c::l):=by rw [CP,if_neg (by omega),if_neg (by omega),if_pos h1]
theorem R3 {c:UInt8} (h:c.toNat = 48):Cs [c] = BX 0 1 []:=by rw [CP,if_pos h]
def xB (d:UInt8):Bool:=d.toNat == 120 || d.toNat == 88
theorem xB_t {d:UInt8} (h:d.toNat = 120∨d.toNat = 88):xB d = true:=by unfold xB; simpa using h
theorem xB_f {d:UInt8} (h:¬ (d.toNat = 120∨d.toNat = 88)):xB d = false:=by unfold xB; simpa using h
theorem TU {c:UInt8} (h1:48≤c.toNat) (h2:c.toNat≤55):AG c = true:=by unfold AG; simp; omega
theorem Nm {c:UInt8} (h:¬ (48≤c.toNat∧c.toNat≤55)):AG c = false:=by unfold AG; simp; omega
theorem J2 {c d:UInt8} {l:List UInt8} (h:c.toNat = 48):Cs (c::d::l) = if d.toNat = 120∨d.toNat = 88 then Iw l else if AG d then Jo l else BX 0 1 (d::l):=by rw [CP,if_pos h]
theorem SK {d:UInt8} (h:xB d = true):d.toNat = 120∨d.toNat = 88:=by unfold xB at h; simpa using h
theorem SJ {d:UInt8} (h:xB d = false):¬ (d.toNat = 120∨d.toNat = 88):=by unfold xB at h; simpa using h
theorem Mc {c d:UInt8} {l:List UInt8} (h:c.toNat = 48) (hx:xB d = false) (ho:AG d = false):Cs (c::d::l) = BX 0 1 (d::l):=by rw [J2 h,if_neg (SJ hx),ho]; rfl
theorem R4 {c d:UInt8} {l:List UInt8} (h:c.toNat = 48) (hx:xB d = true) (hm:As AQ l = 0):Cs (c::d::l) = none:=by rw [J2 h,if_pos (SK hx)]; unfold Iw; rw [if_pos hm]
theorem Me {c d:UInt8} {l:List UInt8} (h:c.toNat = 48) (hx:xB d = true) (hm:¬ As AQ l = 0):Cs (c::d::l) = if Eo (l.drop (As AQ l)) then some (1,2+As AQ l) else none:=by rw [J2 h,if_pos (SK hx)]; unfold Iw; rw [if_neg hm]
theorem Md {c d:UInt8} {l:List UInt8} (h:c.toNat = 48) (hx:xB d = false) (ho:AG d = true):Cs (c::d::l) = if Eo (l.drop (As AG l)) then some (2,2+As AG l) else none:=by rw [J2 h,if_neg (SJ hx),ho]; rfl
theorem F2 (c:UInt8) (l:List UInt8):Eo (c::l) = DI c:=rfl
theorem Bs {p:UInt8→Bool} {x:UInt8} (S:List UInt8) (h:p x = true):As p (x::S) = As p S+1:=by rw [As,if_pos h]
theorem Bk {p:UInt8→Bool} {x:UInt8} (S:List UInt8) (h:p x = false):As p (x::S) = 0:=by rw [As,if_neg (by rw [h]; simp)]
theorem ptB_t {x:UInt8} (S:List UInt8) (h:x.toNat = 46):ptB (x::S) = true:=by unfold ptB; simpa using h
theorem ptB_f {x:UInt8} (S:List UInt8) (h:x.toNat≠46):ptB (x::S) = false:=by unfold ptB; simpa using h
theorem Tf {S:List UInt8} (h:ptB S = true):∃ x T,S = x::T∧x.toNat = 46:=by
 cases S with
 | nil=>cases h
 | cons x T=>exact ⟨x,T,rfl,by unfold ptB at h; simpa using h⟩
theorem TG {K:Nat} {S:List UInt8} (h:ptB S = false):Ev K S = some (K,0):=by
 cases S with
 | nil=>rfl
 | cons x T=>rw [DS,if_neg (by unfold ptB at h; simpa using h)]
def efB (K:Nat) (S:List UInt8):Bool:=S.isEmpty && K == 4
theorem R5 {K:Nat} {x:UInt8} (S:List UInt8) (hx:x.toNat = 46) (hf:efB K S = false):Ev K (x::S) = some (4,1+As AZ S):=by
 rw [DS,if_pos hx,if_neg];rintro ⟨rfl,rfl⟩;cases hf
theorem R7 {K:Nat} {x:UInt8} (S:List UInt8) (hx:x.toNat = 46) (hf:efB K S = true):Ev K (x::S) = none:=by
 unfold efB at hf;rw [DS,if_pos hx,if_pos (by simpa using hf)]
theorem exB_t {x:UInt8} (y:UInt8) (T:List UInt8) (h:x.toNat = 101∨x.toNat = 69):exB (x::y::T) = true:=(Rl x).2 h
theorem exB_f {x:UInt8} (y:UInt8) (T:List UInt8) (h:¬ (x.toNat = 101∨x.toNat = 69)):exB (x::y::T) = false:=by
 cases hb:isE x with
 | true=>exact absurd ((Rl x).1 hb) h
 | false=>exact hb
theorem Ui {T:List UInt8} (h:exB T = true):∃ x y U,T = x::y::U∧isE x = true:=by
 rcases T with _ | ⟨x,_ | ⟨y,U⟩⟩
 ·cases h
 ·cases h
 ·exact ⟨x,y,U,rfl,h⟩
theorem nExp_no {k:Nat} {T:List UInt8} (h:exB T = false):He k T = some (k,0):=by
 rcases T with _ | ⟨x,_ | ⟨y,U⟩⟩
 ·rfl
 ·rfl
 ·rw [Fs,if_neg (by rw [show isE x = false from h]; simp)]
theorem TS {y:UInt8} (h:y.toNat = 43∨y.toNat = 45):Ie y = true:=(PD y).2 h
theorem isPM_f {y:UInt8} (h1:y.toNat≠43) (h2:y.toNat≠45):Ie y = false:=by
 cases hb:Ie y with
 | true=>rcases (PD y).1 hb with h | h <;> omega
 | false=>rfl
def UG (x y:UInt8) (T:List UInt8) (n:Nat) (U:List UInt8):Prop:=(isE x = true→∀ k,He k (x::y::T) = some (4,n+As AZ U))∧(x::y::T).drop n = U
theorem expU_pm {x y:UInt8} {T:List UInt8} (h:Ie y = true) (hne:T≠[]):UG x y T 2 T:=⟨fun hx k=>by rw [Fs,if_pos hx,if_pos h,if_neg hne],rfl⟩
theorem expU_no {x y:UInt8} {T:List UInt8} (h:Ie y = false):UG x y T 1 (y::T):=⟨fun hx k=>by rw [Fs,if_pos hx,if_neg (by rw [h]; simp)],rfl⟩
theorem TH {x y:UInt8} {T U:List UInt8} {n k:Nat} (hx:isE x = true) (h:UG x y T n U):He k (x::y::T) = some (4,n+As AZ U):=h.1 hx k
theorem Uh {x y:UInt8} {T U:List UInt8} {n:Nat} (h:UG x y T n U) (m:Nat):(x::y::T).drop (n+m) = U.drop m:=by rw [←h.2,List.drop_drop]
theorem TJ {x y:UInt8} {k:Nat} (hx:isE x = true) (h:Ie y = true):He k [x,y] = none:=by rw [Fs,if_pos hx,if_pos h,if_pos rfl]
theorem sfB_t {x:UInt8} (S:List UInt8) (h:x.toNat = 102∨x.toNat = 70):sfB (x::S) = true:=(Rk x).2 h
theorem sfB_f {x:UInt8} (S:List UInt8) (h1:x.toNat≠102) (h2:x.toNat≠70):sfB (x::S) = false:=by
 cases hb:isF x with
 | true=>rcases (Rk x).1 hb with h | h <;> omega
 | false=>exact hb
theorem S3 {S:List UInt8} (h:sfB S = true):∃ x T,S = x::T∧isF x = true:=by
 cases S with
 | nil=>cases h
 | cons x T=>exact ⟨x,T,rfl,h⟩
theorem nSuf_no {k:Nat} {S:List UInt8} (h:sfB S = false):Fq k S = (k,0):=by
 cases S with
 | nil=>rfl
 | cons x T=>rw [FV,if_neg (by rw [show isF x = false from h]; simp)]
theorem TC {k:Nat} {x:UInt8} (S:List UInt8) (h:isF x = true):Fq k (x::S) = (4,1):=by rw [FV,if_pos h]
theorem num_end {neg:Bool} {sz sep K nn k1 n1 k2 n2 k3 n3:Nat} {Z:Option NT} {L S T U V:List UInt8} (HN:Z = R8 neg sz sep (Cs L)) (HR:Cs L = BX K nn S) (hF:Ev K S = some (k1,n1)) (hT:S.drop n1 = T)
  (hX:He k1 T = some (k2,n2)) (hU:T.drop n2 = U) (hS:Fq k2 U = (k3,n3)) (hV:U.drop n3 = V):Z = R8 neg sz sep (if Eo V then some (k3,nn+n1+n2+n3) else none):=by
 subst hT hU hV;rw [HN,HR,KU hF,Qv hX];unfold Qu;rw [←List.drop_drop,←List.drop_drop,hS];simp only [Nat.add_assoc]
theorem BT {B q:Nat} {w0 w1 w2:World} (h:Below B w0 w1) (hg:w1.grownBy w2 (some q)) (hq:B≤q) (hB:B≤w1.heap.size):Below B w0 w2:=
 ⟨hg.os.trans h.os,hg.tape.trans h.tape,hg.output.trans h.output,Nat.le_trans h.size hg.size,fun k hk=>(hg.block k (by omega) (fun e=>by injection e with e; omega)).trans (h.block k hk)⟩
theorem C5 {a:Act} {l:List (Nat × Value)} {w w2:World} {k n s p:Value} {Z:Option NT} (H:Has 344 [] a l) (h2:Bf l 2 = some (.pointer (some ⟨w.heap.size,0,none⟩))) (hr:RowAt w2 w.heap.size [k,n,s,p]) (hb:Below w.heap.size w w2)
  (hz:(.agg #[k,n,s,p]:Value) = numV Z):bodyPost Tryz.prog Tryz.f53 (QO Z w) .ret a w2:=by
 refine bodyPost_ret_by (Dy (by rfl) _ _ w.heap.size [k,n,s,p] _ ?_ hr Tryz.underlying80 (by rfl) (by kernel_rfl)) H.defers ?_
 ·have:=H.get 2 _ h2;simp [this]
 ·exact ⟨by rw [←hz],hb⟩
set_option maxRecDepth 100000 in
set_option maxHeartbeats 100000000 in
theorem CO (v:Value) (l:List UInt8) (g:Nat) (w:World) (hv:View w g v l) (hm:l.length≤100000000) :
  Calls Tryz.prog 53 #[v] w (QO (EP l) w):=by
 suffices key:∀ Z,Hid (EP l = Z)→Calls Tryz.prog 53 #[v] w (QO Z w) from key _ (hid rfl)
 intro Z HZ;obtain ⟨w1,hw1⟩:∃ w1,w1 = w.alloc (.cells #[.int .u8 0,.bool false,.int .i64 0,.int .i64 0] 80):=⟨_,rfl⟩
 have hb:Below w.heap.size w w1:=by rw [hw1]; exact (Below.refl _ w).alloc (Nat.le_refl _) _
 have hr:RowAt w1 w.heap.size [.int .u8 0,.bool false,.int .i64 0,.int .i64 0]:=by rw [hw1]; exact BW (heap_alloc_new w _)
 have HB:=hid hb;have R0:=hid hr;have hv1:=hv.below hb;have HW:=hid hw1;clear hr hb hw1 hv
 cases l with
 | nil=>
  have hl0:(([]:List UInt8)).length = 0:=rfl;refine enter1 (M:=344) Tryz.func53 rfl rfl rfl fun a H=>zr fun j1=>NL Ey H rfl fun a H=>?_;rw [←HW.out];refine zN (j1 ?_);refine zr fun j2=>za H rfl fun H=>zN (j2 ?_);refine zr fun j3=>za H rfl fun H=>zN (j3 ?_);refine zK H [0,2,3,4] rfl fun H=>zr fun j4=>za H rfl fun H=>zN (j4 ?_);refine zr fun j5=>zm H rfl fun H=>za H rfl fun H=>zN (j5 ?_);refine zs fun j6=>zr fun j7=>zm H rfl fun H=>zL Tryz.underlying22 H rfl hv1 fun H=>zet H rfl rfl fun H=>zN (j7 ?_);refine zK H [2,3,4,5,6,17] rfl fun H=>zi H rfl (zr fun j8=>zB C2 H rfl fun H=>AJ (vs:=[_,_,_,_]) H rfl rfl R0.out rfl (by kernel_rfl) (by simp [Value.oneCell']) fun w2 hr2 hg2=>zN (j8 ?_));refine wp_ret (tr (?_));refine C5 H rfl hr2 (BT HB.out hg2 (Nat.le_refl _) HB.out.size) ?_
  rw [show Z = none from by rw [←HZ.out] <;> rfl] <;> rfl
 | cons c l=>
  have hl0:(c::l).length = l.length+1:=rfl;have bc:=AM c;refine enter1 (M:=344) Tryz.func53 rfl rfl rfl fun a H=>zr fun j9=>NL Ey H rfl fun a H=>?_;rw [←HW.out];refine zN (j9 ?_);refine zr fun j10=>za H rfl fun H=>zN (j10 ?_);refine zr fun j11=>za H rfl fun H=>zN (j11 ?_);refine zK H [0,2,3,4] rfl fun H=>zr fun j12=>za H rfl fun H=>zN (j12 ?_);refine zr fun j13=>zm H rfl fun H=>za H rfl fun H=>zN (j13 ?_);refine zs fun j14=>zr fun j15=>zm H rfl fun H=>zL Tryz.underlying22 H rfl hv1 fun H=>zef H rfl rfl fun H=>zN (j15 ?_);refine zK H [2,3,4,5,6,17] rfl fun H=>zj H rfl (wp_skip (tn (j14 ?_)));refine zr fun j16=>za H rfl fun H=>zN (j16 ?_);refine BM fun K17 hK17=>zr fun j18=>zm H rfl fun H=>zI H rfl rfl hv1 rfl fun H hc19=>zl A5 H rfl hc19 fun H=>JB H rfl rfl rfl rfl fun a H=>zN (j18 ?_);refine zK H [2,3,4,5,6,7,22] rfl fun H=>?_
  have hJ0:∀ (a:Act) (sz sep:Nat) (neg:Bool) (c1:UInt8) (l1:List UInt8) (v1:Value),Has 344 [] a [(2,.pointer (some ⟨w.heap.size,0,none⟩)),(3,.int .u8 0),(4,.int .i64 ((sz:Nat):Int)),(5,.bool neg),(6,v1),(7,.int .i64 ((sep:Nat):Int))]→View w1 g v1 (c1::l1)→sz+(l1.length+1)≤100000000→Hid (Z = R8 neg sz sep (Cs (c1::l1)))→K17 a w1:=by
   intro a sz sep neg c1 l1 v1 H hv2 hsz HN;refine hK17 _ _ ?_;have hl1:(c1::l1).length = l1.length+1:=rfl;have bc1:=AM c1;refine BM fun K20 hK20=>?_
   have hJs:∀ (a:Act) (K nn s2:Nat) (S:List UInt8) (v2:Value),Has 344 [] a [(2,.pointer (some ⟨w.heap.size,0,none⟩)),(3,.int .u8 ((K:Nat):Int)),(4,.int .i64 ((s2:Nat):Int)),(5,.bool neg),(6,v2),(7,.int .i64 ((sep:Nat):Int))]→View w1 g v2 S→K = 0∨K = 4→s2 = sz+nn→nn+S.length≤l1.length+1→Hid (Cs (c1::l1) = BX K nn S)→K20 a w1:=by
    intro a K nn s2 S v2 H hv4 hK04 hs2 hS HR;refine hK20 _ _ (BM fun K21 hK21=>BM fun K22 hK22=>?_)
    have hJp:∀ (a:Act),Has 344 [] a [(2,.pointer (some ⟨w.heap.size,0,none⟩)),(3,.int .u8 ((K:Nat):Int)),(4,.int .i64 ((s2:Nat):Int)),(5,.bool neg),(6,v2),(7,.int .i64 ((sep:Nat):Int)),(219,.bool (ptB S))]→K22 a w1:=by
     intro a  H ;refine hK22 _ _ ?_
     have hJf:∀ (a:Act) (k1 n1 s3:Nat) (T:List UInt8) (v3:Value),Has 344 [] a [(2,.pointer (some ⟨w.heap.size,0,none⟩)),(3,.int .u8 ((k1:Nat):Int)),(4,.int .i64 ((s3:Nat):Int)),(5,.bool neg),(6,v3),(7,.int .i64 ((sep:Nat):Int))]→View w1 g v3 T→k1≤4→s3 = s2+n1→n1+T.length = S.length→Hid (Ev K S = some (k1,n1)∧S.drop n1 = T)→K21 a w1:=by
      intro a k1 n1 s3 T v3 H hv5 hk1 hs3 hT HF;refine hK21 _ _ (BM fun K23 hK23=>BM fun K24 hK24=>?_)
      have hJq:∀ (a:Act),Has 344 [] a [(2,.pointer (some ⟨w.heap.size,0,none⟩)),(3,.int .u8 ((k1:Nat):Int)),(4,.int .i64 ((s3:Nat):Int)),(5,.bool neg),(6,v3),(7,.int .i64 ((sep:Nat):Int)),(266,.bool (exB T))]→K24 a w1:=by
       intro a  H ;refine hK24 _ _ ?_
       have hJg:∀ (a:Act) (k2 n2 s4:Nat) (U:List UInt8) (v4:Value),Has 344 [] a [(2,.pointer (some ⟨w.heap.size,0,none⟩)),(3,.int .u8 ((k2:Nat):Int)),(4,.int .i64 ((s4:Nat):Int)),(5,.bool neg),(6,v4),(7,.int .i64 ((sep:Nat):Int))]→View w1 g v4 U→k2≤4→s4 = s3+n2→n2+U.length = T.length→Hid (He k1 T = some (k2,n2)∧T.drop n2 = U)→K23 a w1:=by
        intro a k2 n2 s4 U v4 H hv6 hk2 hs4 hU HX;refine hK23 _ _ (BM fun K25 hK25=>BM fun K26 hK26=>?_)
        have hJt:∀ (a:Act),Has 344 [] a [(2,.pointer (some ⟨w.heap.size,0,none⟩)),(3,.int .u8 ((k2:Nat):Int)),(4,.int .i64 ((s4:Nat):Int)),(5,.bool neg),(6,v4),(7,.int .i64 ((sep:Nat):Int)),(323,.bool (sfB U))]→K26 a w1:=by
         intro a  H ;refine hK26 _ _ ?_
         have hJh:∀ (a:Act) (k3 n3 s5:Nat) (V:List UInt8) (v6:Value),Has 344 [] a [(2,.pointer (some ⟨w.heap.size,0,none⟩)),(3,.int .u8 ((k3:Nat):Int)),(4,.int .i64 ((s5:Nat):Int)),(5,.bool neg),(6,v6),(7,.int .i64 ((sep:Nat):Int))]→View w1 g v6 V→s5 = s4+n3→Hid (Fq k2 U = (k3,n3)∧U.drop n3 = V)→K25 a w1:=by
          intro a k3 n3 s5 V v6 H hv8 hs5 HSF;refine hK25 _ _ (zs fun j27=>zs fun j28=>?_);have HEND:=hid (num_end HN.out HR.out HF.out.1 HF.out.2 HX.out.1 HX.out.2 HSF.out.1 HSF.out.2)
          have hsz2:sz+(nn+n1+n2+n3) = s5:=by omega
          have Hs29:=H
          rcases V with _ | ⟨x,V⟩
          ·have H:=Hs29;have hlE:(([]:List UInt8)).length = 0:=rfl;refine Ac (zm H rfl fun H=>zL Tryz.underlying22 H rfl hv8 fun H=>zgf H rfl rfl fun H=>zm H rfl fun H=>zf H rfl fun H=>zf H rfl fun H=>zf H rfl fun H=>zf H rfl fun H=>zf H rfl fun H=>zp H rfl rfl fun H=>zN (j28 ?_));refine zj H rfl (wp_skip (tn (j27 ?_)));refine zr fun j30=>zm H rfl fun H=>zm H rfl fun H=>zm H rfl fun H=>zm H rfl fun H=>zB (F4 _ _ _ _) H rfl fun H=>AJ (vs:=[_,_,_,_]) H rfl rfl R0.out rfl (by kernel_rfl) (by simp [Value.oneCell']) fun w2 hr2 hg2=>zN (j30 ?_);refine zK H [2] rfl fun H=>wp_ret (?_);refine C5 H rfl hr2 (BT HB.out hg2 (Nat.le_refl _) HB.out.size) ?_
           rw [show Z = some ⟨k3,neg,s5,sep⟩ from by rw [HEND.out,←hsz2] <;> rfl] <;> rfl
          ·have H:=Hs29;have hlE:(x::V).length = V.length+1:=rfl;have Hs31:=H
           cases hde:DI x with
           | true=>
            have H:=Hs31;refine Ac (zm H rfl fun H=>zL Tryz.underlying22 H rfl hv8 fun H=>zgt H rfl rfl fun H=>zm H rfl fun H=>zo H rfl (zm H rfl fun H=>zo H rfl (zI H rfl rfl hv8 rfl fun H hc32=>zo H rfl (zl A5 H rfl hc32 fun H=>zo H rfl (zC E6 H rfl (Calls.mono (CU x w1) ?_))))));rintro e w2 ⟨rfl,rfl⟩;rw [hde];refine zR fun H=>zo H rfl (FD H rfl fun H=>zp H rfl rfl fun H=>zN (j28 ?_));refine zj H rfl (wp_skip (tn (j27 ?_)));refine zr fun j33=>zm H rfl fun H=>zm H rfl fun H=>zm H rfl fun H=>zm H rfl fun H=>zB (F4 _ _ _ _) H rfl fun H=>AJ (vs:=[_,_,_,_]) H rfl rfl R0.out rfl (by kernel_rfl) (by simp [Value.oneCell']) fun w2 hr2 hg2=>zN (j33 ?_);refine zK H [2] rfl fun H=>wp_ret (?_);refine C5 H rfl hr2 (BT HB.out hg2 (Nat.le_refl _) HB.out.size) ?_
            rw [show Z = some ⟨k3,neg,s5,sep⟩ from by rw [HEND.out,←hsz2,F2,hde] <;> rfl] <;> rfl
           | false=>
            have H:=Hs31;refine Ac (zm H rfl fun H=>zL Tryz.underlying22 H rfl hv8 fun H=>zgt H rfl rfl fun H=>zm H rfl fun H=>zo H rfl (zm H rfl fun H=>zo H rfl (zI H rfl rfl hv8 rfl fun H hc34=>zo H rfl (zl A5 H rfl hc34 fun H=>zo H rfl (zC E6 H rfl (Calls.mono (CU x w1) ?_))))));rintro e w2 ⟨rfl,rfl⟩;rw [hde];refine zR fun H=>zo H rfl (FD H rfl fun H=>zp H rfl rfl fun H=>zN (j28 ?_));refine zi H rfl (zr fun j35=>zB C2 H rfl fun H=>AJ (vs:=[_,_,_,_]) H rfl rfl R0.out rfl (by kernel_rfl) (by simp [Value.oneCell']) fun w2 hr2 hg2=>zN (j35 ?_));refine wp_ret (tr (?_));refine C5 H rfl hr2 (BT HB.out hg2 (Nat.le_refl _) HB.out.size) ?_
            rw [show Z = none from by rw [HEND.out,F2,hde] <;> rfl] <;> rfl
         have Hs36:=H
         cases hp:sfB U with
         | false=>
          have H:=Hs36;rw [hp] at H;refine zj H rfl ?_;exact wp_skip (tn (hJh _ _ 0 _ _ _ H.c hv6 rfl (hid ⟨nSuf_no hp,rfl⟩)))
         | true=>
          have H:=Hs36;rw [hp] at H;have Hs37:=H;obtain ⟨x,U,rfl,hxf⟩:=S3 hp;have H:=Hs37;have hlU:(x::U).length = U.length+1:=rfl;refine zi H rfl (zr fun j38=>za H rfl fun H=>zN (j38 ?_));refine zr fun j39=>zm H rfl fun H=>BP Tryz.underlying22 Ag H rfl rfl hv6 (by decide) (by first | omega | (simp; omega) | simp) rfl fun a v H hv40=>?_;replace hv40:View _ _ v (U):=hv40;refine za H rfl fun H=>zN (j39 ?_);refine Ac (zm H rfl fun H=>Cf (r:=((s4+1:Nat):Int)) H rfl rfl fun H=>za H rfl fun H=>?_);exact zN (hJh _ 4 1 _ _ _ H.c hv40 rfl (hid ⟨TC U hxf,rfl⟩))
        have Hs41:=H
        rcases U with _ | ⟨x,U⟩
        ·have H:=Hs41;have hlE:(([]:List UInt8)).length = 0:=rfl;refine Ac (zm H rfl fun H=>zL Tryz.underlying22 H rfl hv6 fun H=>zgf H rfl rfl fun H=>zm H rfl fun H=>zf H rfl fun H=>zf H rfl fun H=>zf H rfl fun H=>zf H rfl fun H=>zf H rfl fun H=>zu H rfl fun H=>zu H rfl fun H=>zu H rfl fun H=>zu H rfl fun H=>?_);refine zf H rfl fun H=>zp H rfl rfl fun H=>?_;exact zN (hJt _ (by rw [show sfB [] = false from rfl]; exact H.c))
        ·have H:=Hs41;have hlE:(x::U).length = U.length+1:=rfl;have bxE:=AM x;refine Ac (zm H rfl fun H=>zL Tryz.underlying22 H rfl hv6 fun H=>zgt H rfl rfl fun H=>zm H rfl fun H=>zo H rfl (zm H rfl fun H=>zo H rfl (zI H rfl rfl hv6 rfl fun H hc42=>zo H rfl (zl A5 H rfl hc42 fun H=>zo H rfl ?_))))
         by_cases q43:((x.toNat:Int)) = ((102:Int))
         ·refine zet H rfl rfl fun H=>zo H rfl (zm H rfl fun H=>zf H rfl fun H=>zf H rfl fun H=>zf H rfl fun H=>zf H rfl fun H=>zo H rfl (zp H rfl rfl fun H=>zp H rfl rfl fun H=>?_));exact zN (hJt _ (by rw [show sfB (x::U) = true from sfB_t _ (by omega)]; exact H.c))
         ·refine zef H rfl rfl fun H=>zo H rfl (zm H rfl fun H=>zo H rfl (zm H rfl fun H=>zo H rfl (zI H rfl rfl hv6 rfl fun H hc44=>zo H rfl (zl A5 H rfl hc44 fun H=>zo H rfl ?_))))
          by_cases q45:((x.toNat:Int)) = ((70:Int))
          ·refine zet H rfl rfl fun H=>zo H rfl (zp H rfl rfl fun H=>zp H rfl rfl fun H=>?_);exact zN (hJt _ (by rw [show sfB (x::U) = true from sfB_t _ (by omega)]; exact H.c))
          ·refine zef H rfl rfl fun H=>zo H rfl (zp H rfl rfl fun H=>zp H rfl rfl fun H=>?_);exact zN (hJt _ (by rw [show sfB (x::U) = false from sfB_f _ (by omega) (by omega)]; exact H.c))
       have Hs46:=H
       cases hp:exB T with
       | false=>
        have H:=Hs46;rw [hp] at H;refine zj H rfl ?_;exact wp_skip (tn (hJg _ _ 0 _ _ _ H.c hv5 (by omega) rfl (by omega) (hid ⟨nExp_no hp,rfl⟩)))
       | true=>
        have H:=Hs46;rw [hp] at H;have Hs47:=H;obtain ⟨x,y,T,rfl,hxe⟩:=Ui hp;have H:=Hs47;have hlT:(x::y::T).length = T.length+2:=rfl;have hlT2:(y::T).length = T.length+1:=rfl;have by_:=AM y;refine zi H rfl (zr fun j48=>za H rfl fun H=>zN (j48 ?_));refine zr fun j49=>zm H rfl fun H=>BP Tryz.underlying22 Ag H rfl rfl hv5 (by decide) (by first | omega | (simp; omega) | simp) rfl fun a v H hv50=>?_;replace hv50:View _ _ v (y::T):=hv50;refine za H rfl fun H=>zN (j49 ?_);refine zr fun j51=>za H rfl fun H=>zN (j51 ?_);refine zK H [2,3,4,5,6,7,13] rfl fun H=>BM fun K52 hK52=>BM fun K53 hK53=>?_
        have hJm:∀ (a:Act),Has 344 [] a [(2,.pointer (some ⟨w.heap.size,0,none⟩)),(3,.int .u8 4),(4,.int .i64 ((s3:Nat):Int)),(5,.bool neg),(6,v),(7,.int .i64 ((sep:Nat):Int)),(13,.int .i64 1),(278,.bool (Ie y))]→K53 a w1:=by
         intro a  H ;refine hK53 _ _ ?_
         have hJn:∀ (a:Act) (n5:Nat) (U:List UInt8) (v5:Value),Has 344 [] a [(2,.pointer (some ⟨w.heap.size,0,none⟩)),(3,.int .u8 4),(4,.int .i64 ((s3:Nat):Int)),(5,.bool neg),(6,v5),(7,.int .i64 ((sep:Nat):Int)),(13,.int .i64 ((n5:Nat):Int))]→View w1 g v5 U→n5≤2→n5+U.length = T.length+2→Hid (UG x y T n5 U)→K52 a w1:=by
          intro a n5 U v5 H hv7 hn5 hlU HU;refine hK52 _ _ (BM fun K54 hK54=>?_);have hrl55:=Bp AZ (U)
          have hJ55:∀ (a:Act) (v:Value),Has 344 [] a [(2,.pointer (some ⟨w.heap.size,0,none⟩)),(3,.int .u8 4),(4,.int .i64 ((s3:Nat):Int)),(5,.bool neg),(7,.int .i64 ((sep:Nat):Int)),(6,v),(13,.int .i64 ((n5+As AZ (U):Nat):Int))]→View w1 g v ((U).drop (As AZ (U)))→K54 a w1:=by
           intro a v H hv55;refine hK54 _ _ (Ac (zm H rfl fun H=>zm H rfl fun H=>Cf (r:=((s3+(n5+As AZ (U)):Nat):Int)) H rfl rfl fun H=>za H rfl fun H=>?_));exact zN (hJg _ 4 _ _ _ _ H.c hv55 (by omega) rfl (by have:=List.length_drop (i:=As AZ U) (l:=U); have:=Bp AZ U; omega) (hid ⟨TH hxe HU.out,Uh HU.out _⟩))
          refine wp_block (wp_loop (fun a wx=>∃ (nL:Nat) (SL:List UInt8) (vL:Value),Has 344 [] a [(2,.pointer (some ⟨w.heap.size,0,none⟩)),(3,.int .u8 4),(4,.int .i64 ((s3:Nat):Int)),(5,.bool neg),(7,.int .i64 ((sep:Nat):Int)),(6,vL),(13,.int .i64 ((n5+nL:Nat):Int))]∧View w1 g vL SL∧nL+As AZ SL = As AZ (U)∧SL.drop (As AZ SL) = (U).drop (As AZ (U))∧nL+SL.length = (U).length∧wx = w1) (fun a _=>n5+(U).length - (intOf (a.eval (.tmp 13))).toNat) ?_ ?_)
          ·exact ⟨0,_,_,H.c,hv7,by simp,rfl,by simp,rfl⟩
          ·rintro a wx ⟨nL,SL,vL,H,hvS,hn,hd,hl,rfl⟩;have HE:=hid (H.ev (x:=.tmp 13) rfl);have Hs56:=H
           rcases SL with _ | ⟨xL,SL⟩
           ·have H:=Hs56;have hl0:(([]:List UInt8)).length = 0:=rfl
            have hn0:nL = As AZ (U):=by have h0:As AZ [] = 0:=rfl; omega
            rw [hn0] at H;refine zs fun j57=>zr fun j58=>zm H rfl fun H=>zL Tryz.underlying22 H rfl hvS fun H=>zgf H rfl rfl fun H=>zm H rfl fun H=>zf H rfl fun H=>zf H rfl fun H=>zf H rfl fun H=>zf H rfl fun H=>zp H rfl rfl fun H=>zm H rfl fun H=>zf H rfl fun H=>zf H rfl fun H=>?_;refine zf H rfl fun H=>zf H rfl fun H=>zp H rfl rfl fun H=>zN (j58 ?_);refine zj H rfl ?_;exact wp_exit (te (te (A9 (tn (hJ55 _ _ H.c (by rw [←hd]; exact hvS))))))
           ·have H:=Hs56;have hlx:(xL::SL).length = SL.length+1:=rfl;have bx:=AM xL;have Hs59:=H
            cases hp:AZ xL with
            | true=>
             have H:=Hs59;have hq:=Mr hp;refine zs fun j60=>zr fun j61=>zm H rfl fun H=>zL Tryz.underlying22 H rfl hvS fun H=>zgt H rfl rfl fun H=>zm H rfl fun H=>zo H rfl (zm H rfl fun H=>zo H rfl (zI H rfl rfl hvS rfl fun H hc62=>zo H rfl (zl A5 H rfl hc62 fun H=>zo H rfl (zqt H rfl rfl fun H=>?_))));refine zp H rfl rfl fun H=>zm H rfl fun H=>zo H rfl (zm H rfl fun H=>zo H rfl (zI H rfl rfl hvS rfl fun H hc63=>zo H rfl (zl A5 H rfl hc63 fun H=>zo H rfl (zqt H rfl rfl fun H=>zp H rfl rfl fun H=>zN (j61 ?_)))));refine zi H rfl (wp_skip (tn (j60 ?_)));refine zK H [2,3,4,5,6,7,13] rfl fun H=>wp_block (zr fun j64=>zm H rfl fun H=>BP Tryz.underlying22 Ag H rfl rfl hvS (by decide) (by first | omega | (simp; omega) | simp) rfl fun a v H hv65=>?_);replace hv65:View _ _ v (SL):=hv65;refine za H rfl fun H=>zN (j64 ?_);refine Ac (zm H rfl fun H=>Cf (r:=(((n5+nL)+1:Nat):Int)) H rfl rfl fun H=>za H rfl fun H=>wpList_nil (bn (tn (⟨⟨nL+1,SL,_,H.c,hv65,?_,?_,by omega,rfl⟩,?_⟩))))
             ·have:=Bs SL hp; omega
             ·rw [←hd,Bs SL hp] <;> rfl
             ·have h2:=H.ev (x:=.tmp 13) rfl;simp only [HE.out,h2,intOf];omega
            | false=>
             have H:=Hs59;have hq:=Od hp
             have hn0:nL = As AZ (U):=by have h0:=Bk SL hp; omega
             rw [hn0] at H;refine zs fun j66=>zr fun j67=>zm H rfl fun H=>zL Tryz.underlying22 H rfl hvS fun H=>zgt H rfl rfl fun H=>zm H rfl fun H=>zo H rfl (zm H rfl fun H=>zo H rfl (zI H rfl rfl hvS rfl fun H hc68=>zo H rfl (zl A5 H rfl hc68 fun H=>zo H rfl ?_)))
             by_cases q69:((48:Int))≤((xL.toNat:Int))
             ·refine zqt H rfl rfl fun H=>zp H rfl rfl fun H=>zm H rfl fun H=>zo H rfl (zm H rfl fun H=>zo H rfl (zI H rfl rfl hvS rfl fun H hc70=>zo H rfl (zl A5 H rfl hc70 fun H=>zo H rfl (zqf H rfl rfl fun H=>zp H rfl rfl fun H=>zN (j67 ?_)))));refine zj H rfl ?_;exact wp_exit (te (te (A9 (tn (hJ55 _ _ H.c (by rw [←hd,Bk SL hp]; exact hvS))))))
             ·refine zqf H rfl rfl fun H=>zp H rfl rfl fun H=>zm H rfl fun H=>zf H rfl fun H=>zf H rfl fun H=>zf H rfl fun H=>zf H rfl fun H=>zp H rfl rfl fun H=>zN (j67 ?_);refine zK H [2,3,4,5,6,7,13,301] rfl fun H=>zj H rfl ?_;exact wp_exit (te (te (A9 (tn (hJ55 _ _ H.c (by rw [←hd,Bk SL hp]; exact hvS))))))
         have Hs71:=H
         cases hpm:Ie y with
         | true=>
          have H:=Hs71;rw [hpm] at H;refine zi H rfl (zr fun j72=>zm H rfl fun H=>BP Tryz.underlying22 Ag H rfl rfl hv50 (by decide) (by first | omega | (simp; omega) | simp) rfl fun a v H hv73=>?_);replace hv73:View _ _ v (T):=hv73;refine za H rfl fun H=>zN (j72 ?_);refine zr fun j74=>zm H rfl fun H=>Cf (r:=((1+1:Nat):Int)) H rfl rfl fun H=>za H rfl fun H=>zN (j74 ?_);refine zs fun j75=>?_;have Hs76:=H
          rcases T with _ | ⟨z,T⟩
          ·have H:=Hs76;have hlE:(([]:List UInt8)).length = 0:=rfl;refine Ac (zm H rfl fun H=>zL Tryz.underlying22 H rfl hv73 fun H=>zet H rfl rfl fun H=>zN (j75 ?_));refine zK H [2,3,4,5,6,7,13,285] rfl fun H=>zi H rfl (zr fun j77=>zB C2 H rfl fun H=>AJ (vs:=[_,_,_,_]) H rfl rfl R0.out rfl (by kernel_rfl) (by simp [Value.oneCell']) fun w2 hr2 hg2=>zN (j77 ?_));refine wp_ret (tr (tr (?_)));refine C5 H rfl hr2 (BT HB.out hg2 (Nat.le_refl _) HB.out.size) ?_
           rw [show Z = none from by rw [HN.out,HR.out,KU HF.out.1,Px (by rw [HF.out.2]; exact TJ hxe hpm)] <;> rfl] <;> rfl
          ·have H:=Hs76;have hlE:(z::T).length = T.length+1:=rfl
           have hne:z::T≠[]:=by simp
           refine Ac (zm H rfl fun H=>zL Tryz.underlying22 H rfl hv73 fun H=>zef H rfl rfl fun H=>zN (j75 ?_));refine zj H rfl ?_;exact wp_skip (tn (hJn _ 2 _ _ H.c hv73 (by omega) (by omega) (hid (expU_pm hpm hne))))
         | false=>
          have H:=Hs71;rw [hpm] at H;refine zj H rfl ?_;exact wp_skip (tn (hJn _ 1 _ _ H.c hv50 (by omega) (by omega) (hid (expU_no hpm))))
        refine Ac (zm H rfl fun H=>zI H rfl rfl hv50 rfl fun H hc78=>zl A5 H rfl hc78 fun H=>?_)
        by_cases q79:((y.toNat:Int)) = ((43:Int))
        ·refine zet H rfl rfl fun H=>zm H rfl fun H=>zf H rfl fun H=>zf H rfl fun H=>zf H rfl fun H=>zf H rfl fun H=>zp H rfl rfl fun H=>?_;exact zN (hJm _ (by rw [show Ie y = true from TS (by omega)]; exact H.c))
        ·refine zef H rfl rfl fun H=>zm H rfl fun H=>zo H rfl (zm H rfl fun H=>zo H rfl (zI H rfl rfl hv50 rfl fun H hc80=>zo H rfl (zl A5 H rfl hc80 fun H=>zo H rfl ?_)))
         by_cases q81:((y.toNat:Int)) = ((45:Int))
         ·refine zet H rfl rfl fun H=>zp H rfl rfl fun H=>?_;exact zN (hJm _ (by rw [show Ie y = true from TS (by omega)]; exact H.c))
         ·refine zef H rfl rfl fun H=>zp H rfl rfl fun H=>?_;exact zN (hJm _ (by rw [show Ie y = false from isPM_f (by omega) (by omega)]; exact H.c))
      have Hs82:=H
      rcases T with _ | ⟨x,T⟩
      ·have H:=Hs82;have hlE:(([]:List UInt8)).length = 0:=rfl;refine Ac (zm H rfl fun H=>zL Tryz.underlying22 H rfl hv5 fun H=>SD (b:=false) H rfl rfl (decide_eq_false (by omega)) rfl fun a H=>zm H rfl fun H=>zf H rfl fun H=>zf H rfl fun H=>zf H rfl fun H=>zf H rfl fun H=>zf H rfl fun H=>zu H rfl fun H=>zu H rfl fun H=>zu H rfl fun H=>zu H rfl fun H=>?_);refine zf H rfl fun H=>zp H rfl rfl fun H=>?_;exact zN (hJq _ (by rw [show exB [] = false from rfl]; exact H.c))
      ·have H:=Hs82;have Hs83:=H
       rcases T with _ | ⟨y,T⟩
       ·have H:=Hs83;have hlE:[x].length = 1:=rfl;refine Ac (zm H rfl fun H=>zL Tryz.underlying22 H rfl hv5 fun H=>SD (b:=false) H rfl rfl (decide_eq_false (by omega)) rfl fun a H=>zm H rfl fun H=>zf H rfl fun H=>zf H rfl fun H=>zf H rfl fun H=>zf H rfl fun H=>zf H rfl fun H=>zu H rfl fun H=>zu H rfl fun H=>zu H rfl fun H=>zu H rfl fun H=>?_);refine zf H rfl fun H=>zp H rfl rfl fun H=>?_;exact zN (hJq _ (by rw [show exB [x] = false from rfl]; exact H.c))
       ·have H:=Hs83;have hlE:(x::y::T).length = T.length+2:=rfl;have bxE:=AM x;refine Ac (zm H rfl fun H=>zL Tryz.underlying22 H rfl hv5 fun H=>SD (b:=true) H rfl rfl (decide_eq_true (by omega)) rfl fun a H=>zm H rfl fun H=>zo H rfl (zm H rfl fun H=>zo H rfl (zI H rfl rfl hv5 rfl fun H hc84=>zo H rfl (zl A5 H rfl hc84 fun H=>zo H rfl ?_))))
        by_cases q85:((x.toNat:Int)) = ((101:Int))
        ·refine zet H rfl rfl fun H=>zo H rfl (zm H rfl fun H=>zf H rfl fun H=>zf H rfl fun H=>zf H rfl fun H=>zf H rfl fun H=>zo H rfl (zp H rfl rfl fun H=>zp H rfl rfl fun H=>?_));exact zN (hJq _ (by rw [show exB (x::y::T) = true from exB_t _ _ (by omega)]; exact H.c))
        ·refine zef H rfl rfl fun H=>zo H rfl (zm H rfl fun H=>zo H rfl (zm H rfl fun H=>zo H rfl (zI H rfl rfl hv5 rfl fun H hc86=>zo H rfl (zl A5 H rfl hc86 fun H=>zo H rfl ?_))))
         by_cases q87:((x.toNat:Int)) = ((69:Int))
         ·refine zet H rfl rfl fun H=>zo H rfl (zp H rfl rfl fun H=>zp H rfl rfl fun H=>?_);exact zN (hJq _ (by rw [show exB (x::y::T) = true from exB_t _ _ (by omega)]; exact H.c))
         ·refine zef H rfl rfl fun H=>zo H rfl (zp H rfl rfl fun H=>zp H rfl rfl fun H=>?_);exact zN (hJq _ (by rw [show exB (x::y::T) = false from exB_f _ _ (by omega)]; exact H.c))
     have Hs88:=H
     cases hp:ptB S with
     | false=>
      have H:=Hs88;rw [hp] at H;refine zj H rfl ?_;exact wp_skip (tn (hJf _ _ 0 _ _ _ H.c hv4 (by omega) rfl (by omega) (hid ⟨TG hp,rfl⟩)))
     | true=>
      have H:=Hs88;rw [hp] at H;have Hs89:=H;obtain ⟨x,S,rfl,hx46⟩:=Tf hp;have H:=Hs89;have hlS:(x::S).length = S.length+1:=rfl;refine zi H rfl (zr fun j90=>za H rfl fun H=>zN (j90 ?_));refine zr fun j91=>zm H rfl fun H=>BP Tryz.underlying22 Ag H rfl rfl hv4 (by decide) (by first | omega | (simp; omega) | simp) rfl fun a v H hv92=>?_;replace hv92:View _ _ v (S):=hv92;refine za H rfl fun H=>zN (j91 ?_);refine zs fun j93=>BM fun K94 hK94=>?_
      have hJe:∀ (a:Act),Has 344 [] a [(2,.pointer (some ⟨w.heap.size,0,none⟩)),(3,.int .u8 ((K:Nat):Int)),(4,.int .i64 ((s2:Nat):Int)),(5,.bool neg),(6,v),(7,.int .i64 ((sep:Nat):Int)),(12,.int .i64 1),(228,.bool (efB K S))]→K94 a w1:=by
       intro a  H ;refine hK94 _ _ ?_;have Hs95:=H
       cases hf:efB K S with
       | true=>
        have H:=Hs95;rw [hf] at H;refine zi H rfl (zr fun j96=>zB C2 H rfl fun H=>AJ (vs:=[_,_,_,_]) H rfl rfl R0.out rfl (by kernel_rfl) (by simp [Value.oneCell']) fun w2 hr2 hg2=>zN (j96 ?_));refine zK H [2,3,4,5,6,7,12] rfl fun H=>wp_ret (tr (tr (?_)));refine C5 H rfl hr2 (BT HB.out hg2 (Nat.le_refl _) HB.out.size) ?_
        rw [show Z = none from by rw [HN.out,HR.out,Qt (R7 S hx46 hf)] <;> rfl] <;> rfl
       | false=>
        have H:=Hs95;rw [hf] at H;refine zj H rfl (wp_skip (tn (j93 ?_)));refine zK H [2,3,4,5,6,7,12] rfl fun H=>BM fun K97 hK97=>?_;have hrl98:=Bp AZ (S)
        have hJ98:∀ (a:Act) (v:Value),Has 344 [] a [(2,.pointer (some ⟨w.heap.size,0,none⟩)),(4,.int .i64 ((s2:Nat):Int)),(5,.bool neg),(7,.int .i64 ((sep:Nat):Int)),(6,v),(12,.int .i64 ((1+As AZ (S):Nat):Int))]→View w1 g v ((S).drop (As AZ (S)))→K97 a w1:=by
         intro a v H hv98;refine hK97 _ _ (zr fun j99=>zm H rfl fun H=>zm H rfl fun H=>Cf (r:=((s2+(1+As AZ (S)):Nat):Int)) H rfl rfl fun H=>za H rfl fun H=>zN (j99 ?_));refine Ac (za H rfl fun H=>?_);exact zN (hJf _ 4 _ _ _ _ H.c hv98 (by omega) rfl (by have:=List.length_drop (i:=As AZ S) (l:=S); have:=Bp AZ S; omega) (hid ⟨R5 S hx46 hf,by rw [Nat.add_comm]; rfl⟩))
        refine wp_block (wp_loop (fun a wx=>∃ (nL:Nat) (SL:List UInt8) (vL:Value),Has 344 [] a [(2,.pointer (some ⟨w.heap.size,0,none⟩)),(4,.int .i64 ((s2:Nat):Int)),(5,.bool neg),(7,.int .i64 ((sep:Nat):Int)),(6,vL),(12,.int .i64 ((1+nL:Nat):Int))]∧View w1 g vL SL∧nL+As AZ SL = As AZ (S)∧SL.drop (As AZ SL) = (S).drop (As AZ (S))∧nL+SL.length = (S).length∧wx = w1) (fun a _=>1+(S).length - (intOf (a.eval (.tmp 12))).toNat) ?_ ?_)
        ·exact ⟨0,_,_,H.c,hv92,by simp,rfl,by simp,rfl⟩
        ·rintro a wx ⟨nL,SL,vL,H,hvS,hn,hd,hl,rfl⟩;have HE:=hid (H.ev (x:=.tmp 12) rfl);have Hs100:=H
         rcases SL with _ | ⟨xL,SL⟩
         ·have H:=Hs100;have hl0:(([]:List UInt8)).length = 0:=rfl
          have hn0:nL = As AZ (S):=by have h0:As AZ [] = 0:=rfl; omega
          rw [hn0] at H;refine zs fun j101=>zr fun j102=>zm H rfl fun H=>zL Tryz.underlying22 H rfl hvS fun H=>zgf H rfl rfl fun H=>zm H rfl fun H=>zf H rfl fun H=>zf H rfl fun H=>zf H rfl fun H=>zf H rfl fun H=>zp H rfl rfl fun H=>zm H rfl fun H=>zf H rfl fun H=>zf H rfl fun H=>?_;refine zf H rfl fun H=>zf H rfl fun H=>zp H rfl rfl fun H=>zN (j102 ?_);refine zj H rfl ?_;exact wp_exit (te (te (A9 (tn (hJ98 _ _ H.c (by rw [←hd]; exact hvS))))))
         ·have H:=Hs100;have hlx:(xL::SL).length = SL.length+1:=rfl;have bx:=AM xL;have Hs103:=H
          cases hp:AZ xL with
          | true=>
           have H:=Hs103;have hq:=Mr hp;refine zs fun j104=>zr fun j105=>zm H rfl fun H=>zL Tryz.underlying22 H rfl hvS fun H=>zgt H rfl rfl fun H=>zm H rfl fun H=>zo H rfl (zm H rfl fun H=>zo H rfl (zI H rfl rfl hvS rfl fun H hc106=>zo H rfl (zl A5 H rfl hc106 fun H=>zo H rfl (zqt H rfl rfl fun H=>?_))));refine zp H rfl rfl fun H=>zm H rfl fun H=>zo H rfl (zm H rfl fun H=>zo H rfl (zI H rfl rfl hvS rfl fun H hc107=>zo H rfl (zl A5 H rfl hc107 fun H=>zo H rfl (zqt H rfl rfl fun H=>zp H rfl rfl fun H=>zN (j105 ?_)))));refine zi H rfl (wp_skip (tn (j104 ?_)));refine zK H [2,4,5,6,7,12] rfl fun H=>wp_block (zr fun j108=>zm H rfl fun H=>BP Tryz.underlying22 Ag H rfl rfl hvS (by decide) (by first | omega | (simp; omega) | simp) rfl fun a v H hv109=>?_);replace hv109:View _ _ v (SL):=hv109;refine za H rfl fun H=>zN (j108 ?_);refine Ac (zm H rfl fun H=>Cf (r:=(((1+nL)+1:Nat):Int)) H rfl rfl fun H=>za H rfl fun H=>wpList_nil (bn (tn (⟨⟨nL+1,SL,_,H.c,hv109,?_,?_,by omega,rfl⟩,?_⟩))))
           ·have:=Bs SL hp; omega
           ·rw [←hd,Bs SL hp] <;> rfl
           ·have h2:=H.ev (x:=.tmp 12) rfl;simp only [HE.out,h2,intOf];omega
          | false=>
           have H:=Hs103;have hq:=Od hp
           have hn0:nL = As AZ (S):=by have h0:=Bk SL hp; omega
           rw [hn0] at H;refine zs fun j110=>zr fun j111=>zm H rfl fun H=>zL Tryz.underlying22 H rfl hvS fun H=>zgt H rfl rfl fun H=>zm H rfl fun H=>zo H rfl (zm H rfl fun H=>zo H rfl (zI H rfl rfl hvS rfl fun H hc112=>zo H rfl (zl A5 H rfl hc112 fun H=>zo H rfl ?_)))
           by_cases q113:((48:Int))≤((xL.toNat:Int))
           ·refine zqt H rfl rfl fun H=>zp H rfl rfl fun H=>zm H rfl fun H=>zo H rfl (zm H rfl fun H=>zo H rfl (zI H rfl rfl hvS rfl fun H hc114=>zo H rfl (zl A5 H rfl hc114 fun H=>zo H rfl (zqf H rfl rfl fun H=>zp H rfl rfl fun H=>zN (j111 ?_)))));refine zj H rfl ?_;exact wp_exit (te (te (A9 (tn (hJ98 _ _ H.c (by rw [←hd,Bk SL hp]; exact hvS))))))
           ·refine zqf H rfl rfl fun H=>zp H rfl rfl fun H=>zm H rfl fun H=>zf H rfl fun H=>zf H rfl fun H=>zf H rfl fun H=>zf H rfl fun H=>zp H rfl rfl fun H=>zN (j111 ?_);refine zK H [2,4,5,6,7,12,244] rfl fun H=>zj H rfl ?_;exact wp_exit (te (te (A9 (tn (hJ98 _ _ H.c (by rw [←hd,Bk SL hp]; exact hvS))))))
      have Hs115:=H
      rcases S with _ | ⟨y,S⟩
      ·have H:=Hs115;have hlE:(([]:List UInt8)).length = 0:=rfl;have Hs116:=H
       rcases hK04 with rfl | rfl
       ·have H:=Hs116;refine Ac (zm H rfl fun H=>zL Tryz.underlying22 H rfl hv92 fun H=>zet H rfl rfl fun H=>zm H rfl fun H=>zo H rfl (zm H rfl fun H=>zo H rfl (zef H rfl rfl fun H=>zp H rfl rfl fun H=>?_)));exact zN (hJe _ (by rw [show efB 0 [] = false from rfl]; exact H.c))
       ·have H:=Hs116;refine Ac (zm H rfl fun H=>zL Tryz.underlying22 H rfl hv92 fun H=>zet H rfl rfl fun H=>zm H rfl fun H=>zo H rfl (zm H rfl fun H=>zo H rfl (zet H rfl rfl fun H=>zp H rfl rfl fun H=>?_)));exact zN (hJe _ (by rw [show efB 4 [] = true from rfl]; exact H.c))
      ·have H:=Hs115;have hlE:(y::S).length = S.length+1:=rfl;refine Ac (zm H rfl fun H=>zL Tryz.underlying22 H rfl hv92 fun H=>zef H rfl rfl fun H=>zm H rfl fun H=>zf H rfl fun H=>zf H rfl fun H=>zp H rfl rfl fun H=>?_);exact zN (hJe _ (by rw [show efB K (y::S) = false from rfl]; exact H.c))
    have Hs117:=H
    rcases S with _ | ⟨x,S⟩
    ·have H:=Hs117;have hlE:(([]:List UInt8)).length = 0:=rfl;refine Ac (zm H rfl fun H=>zL Tryz.underlying22 H rfl hv4 fun H=>zgf H rfl rfl fun H=>zm H rfl fun H=>zf H rfl fun H=>zf H rfl fun H=>zf H rfl fun H=>zf H rfl fun H=>zp H rfl rfl fun H=>?_);exact zN (hJp _ (by rw [show ptB [] = false from rfl]; exact H.c))
    ·have H:=Hs117;have hlE:(x::S).length = S.length+1:=rfl;have bxE:=AM x;refine Ac (zm H rfl fun H=>zL Tryz.underlying22 H rfl hv4 fun H=>zgt H rfl rfl fun H=>zm H rfl fun H=>zo H rfl (zm H rfl fun H=>zo H rfl (zI H rfl rfl hv4 rfl fun H hc118=>zo H rfl (zl A5 H rfl hc118 fun H=>zo H rfl ?_))))
     by_cases q119:((x.toNat:Int)) = ((46:Int))
     ·refine zet H rfl rfl fun H=>zp H rfl rfl fun H=>?_;exact zN (hJp _ (by rw [show ptB (x::S) = true from ptB_t _ (by omega)]; exact H.c))
     ·refine zef H rfl rfl fun H=>zp H rfl rfl fun H=>?_;exact zN (hJp _ (by rw [show ptB (x::S) = false from ptB_f _ (by omega)]; exact H.c))
   refine wp_block (zr fun j120=>zm H rfl fun H=>zI H rfl rfl hv2 rfl fun H hc121=>zl A5 H rfl hc121 fun H=>?_)
   by_cases q122:((c1.toNat:Int)) = ((48:Int))
   ·refine zet H rfl rfl fun H=>za H rfl fun H=>zN (j120 ?_);refine zi H rfl (zs fun j123=>zs fun j124=>?_)
    have h48:c1.toNat = 48:=by omega
    have Hs125:=H
    rcases l1 with _ | ⟨d1,l2⟩
    ·have H:=Hs125;have hl2:[c1].length = 1:=rfl;refine Ac (zm H rfl fun H=>zL Tryz.underlying22 H rfl hv2 fun H=>zgf H rfl rfl fun H=>zN (j124 ?_));refine zj H rfl (wp_skip (tn (j123 ?_)));refine zK H [2,3,4,5,6,7] rfl fun H=>zr fun j126=>zm H rfl fun H=>BP Tryz.underlying22 Ag H rfl rfl hv2 (by decide) (by first | omega | (simp; omega) | simp) rfl fun a v H hv127=>?_;replace hv127:View _ _ v ([]):=hv127;refine za H rfl fun H=>zN (j126 ?_);refine Ac (zm H rfl fun H=>Cf (r:=((sz+1:Nat):Int)) H rfl rfl fun H=>za H rfl fun H=>?_);exact wpList_nil (bn (tn (hJs _ 0 1 _ _ _ H.c hv127 (.inl rfl) rfl (by simp) (hid (R3 h48)))))
    ·have H:=Hs125;have hl2:(c1::d1::l2).length = l2.length+2:=rfl;have hl3:(d1::l2).length = l2.length+1:=rfl;have bd1:=AM d1;refine Ac (zm H rfl fun H=>zL Tryz.underlying22 H rfl hv2 fun H=>zgt H rfl rfl fun H=>zN (j124 ?_));refine zi H rfl (zs fun j128=>wp_block (BM fun K129 hK129=>?_))
     have hJx:∀ (a:Act),Has 344 [] a [(2,.pointer (some ⟨w.heap.size,0,none⟩)),(3,.int .u8 0),(4,.int .i64 ((sz:Nat):Int)),(5,.bool neg),(6,v1),(7,.int .i64 ((sep:Nat):Int)),(51,.bool (xB d1))]→K129 a w1:=by
      intro a  H ;refine hK129 _ _ ?_;have Hs130:=H
      cases hx:xB d1 with
      | true=>
       have H:=Hs130;rw [hx] at H;refine zi H rfl (zr fun j131=>za H rfl fun H=>zN (j131 ?_));refine zK H [2,3,4,5,6,7] rfl fun H=>zr fun j132=>za H rfl fun H=>zN (j132 ?_);refine zr fun j133=>zm H rfl fun H=>BP Tryz.underlying22 Ag H rfl rfl hv2 (by decide) (by first | omega | (simp; omega) | simp) rfl fun a v H hv134=>?_;replace hv134:View _ _ v (l2):=hv134;refine za H rfl fun H=>zN (j133 ?_);refine BM fun K135 hK135=>?_;have hrl136:=Bp AQ (l2)
       have hJ136:∀ (a:Act) (v:Value),Has 344 [] a [(2,.pointer (some ⟨w.heap.size,0,none⟩)),(3,.int .u8 1),(4,.int .i64 ((sz:Nat):Int)),(5,.bool neg),(7,.int .i64 ((sep:Nat):Int)),(6,v),(9,.int .i64 ((2+As AQ (l2):Nat):Int))]→View w1 g v ((l2).drop (As AQ (l2)))→K135 a w1:=by
        intro a v H hv136;refine hK135 _ _ (zs fun j137=>zs fun j138=>?_);have hr2:=Bp AQ l2
        by_cases hm0:As AQ l2 = 0
        ·refine Ac (zm H rfl fun H=>zet H rfl rfl fun H=>zN (j138 ?_));refine zK H [2,3,4,5,6,7,9,108] rfl fun H=>zi H rfl (zr fun j139=>zB C2 H rfl fun H=>AJ (vs:=[_,_,_,_]) H rfl rfl R0.out rfl (by kernel_rfl) (by simp [Value.oneCell']) fun w2 hr2 hg2=>zN (j139 ?_));refine wp_ret (tr (br (tr (tr (br (tr (?_)))))));refine C5 H rfl hr2 (BT HB.out hg2 (Nat.le_refl _) HB.out.size) ?_
         rw [show Z = none from by rw [HN.out,R4 h48 hx hm0] <;> rfl] <;> rfl
        ·refine Ac (zm H rfl fun H=>zef H rfl rfl fun H=>zN (j138 ?_));refine zj H rfl (wp_skip (tn (j137 ?_)));refine zK H [2,3,4,5,6,7,9] rfl fun H=>Ac (zm H rfl fun H=>zm H rfl fun H=>Cf (r:=((sz+(2+As AQ (l2)):Nat):Int)) H rfl rfl fun H=>za H rfl fun H=>wpList_nil (bn (tn (j128 ?_))));refine zr fun j140=>zm H rfl fun H=>QT (r:=(1:Int)) H rfl rfl (by kernel_rfl) rfl fun a H=>zgt H rfl rfl fun H=>zN (j140 ?_);refine zi H rfl (zs fun j141=>zs fun j142=>?_);have Hs143:=H
         rcases hS:l2.drop (As AQ l2) with _ | ⟨x,S⟩
         ·have H:=Hs143;have hvE:View w1 g _ ([]:List UInt8):=hS ▸ hv136;have hlE:(([]:List UInt8)).length = 0:=rfl;refine Ac (zm H rfl fun H=>zL Tryz.underlying22 H rfl hvE fun H=>zgf H rfl rfl fun H=>zm H rfl fun H=>zf H rfl fun H=>zf H rfl fun H=>zf H rfl fun H=>zf H rfl fun H=>zf H rfl fun H=>zp H rfl rfl fun H=>zN (j142 ?_));refine zK H [2,3,4,5,6,7,9,160] rfl fun H=>zj H rfl (wp_skip (tn (j141 ?_)));refine zr fun j144=>zm H rfl fun H=>zm H rfl fun H=>zm H rfl fun H=>zm H rfl fun H=>zB (F4 _ _ _ _) H rfl fun H=>AJ (vs:=[_,_,_,_]) H rfl rfl R0.out rfl (by kernel_rfl) (by simp [Value.oneCell']) fun w2 hr2 hg2=>zN (j144 ?_);refine wp_ret (tr (br (tr (?_))));refine C5 H rfl hr2 (BT HB.out hg2 (Nat.le_refl _) HB.out.size) ?_
          rw [show Z = some ⟨1,neg,sz+(2+As AQ l2),sep⟩ from by rw [HN.out,Me h48 hx hm0,hS] <;> rfl] <;> rfl
         ·have H:=Hs143;have hvE:View w1 g _ (x::S):=hS ▸ hv136;have hlE:(x::S).length = S.length+1:=rfl;have Hs145:=H
          cases hde:DI x with
          | true=>
           have H:=Hs145;refine Ac (zm H rfl fun H=>zL Tryz.underlying22 H rfl hvE fun H=>zgt H rfl rfl fun H=>zm H rfl fun H=>zo H rfl (zm H rfl fun H=>zo H rfl (zI H rfl rfl hvE rfl fun H hc146=>zo H rfl (zl A5 H rfl hc146 fun H=>zo H rfl (zC E6 H rfl (Calls.mono (CU x w1) ?_))))));rintro e w2 ⟨rfl,rfl⟩;rw [hde];refine zR fun H=>zo H rfl (FD H rfl fun H=>zp H rfl rfl fun H=>zN (j142 ?_));refine zK H [2,3,4,5,6,7,9,160] rfl fun H=>zj H rfl (wp_skip (tn (j141 ?_)));refine zr fun j147=>zm H rfl fun H=>zm H rfl fun H=>zm H rfl fun H=>zm H rfl fun H=>zB (F4 _ _ _ _) H rfl fun H=>AJ (vs:=[_,_,_,_]) H rfl rfl R0.out rfl (by kernel_rfl) (by simp [Value.oneCell']) fun w2 hr2 hg2=>zN (j147 ?_);refine wp_ret (tr (br (tr (?_))));refine C5 H rfl hr2 (BT HB.out hg2 (Nat.le_refl _) HB.out.size) ?_
           rw [show Z = some ⟨1,neg,sz+(2+As AQ l2),sep⟩ from by rw [HN.out,Me h48 hx hm0,hS,F2,hde] <;> rfl] <;> rfl
          | false=>
           have H:=Hs145;refine Ac (zm H rfl fun H=>zL Tryz.underlying22 H rfl hvE fun H=>zgt H rfl rfl fun H=>zm H rfl fun H=>zo H rfl (zm H rfl fun H=>zo H rfl (zI H rfl rfl hvE rfl fun H hc148=>zo H rfl (zl A5 H rfl hc148 fun H=>zo H rfl (zC E6 H rfl (Calls.mono (CU x w1) ?_))))));rintro e w2 ⟨rfl,rfl⟩;rw [hde];refine zR fun H=>zo H rfl (FD H rfl fun H=>zp H rfl rfl fun H=>zN (j142 ?_));refine zK H [2,3,4,5,6,7,9,160] rfl fun H=>zi H rfl (zr fun j149=>zB C2 H rfl fun H=>AJ (vs:=[_,_,_,_]) H rfl rfl R0.out rfl (by kernel_rfl) (by simp [Value.oneCell']) fun w2 hr2 hg2=>zN (j149 ?_));refine wp_ret (tr (tr (br (tr (?_)))));refine C5 H rfl hr2 (BT HB.out hg2 (Nat.le_refl _) HB.out.size) ?_
           rw [show Z = none from by rw [HN.out,Me h48 hx hm0,hS,F2,hde] <;> rfl] <;> rfl
       refine wp_block (wp_loop (fun a wx=>∃ (nL:Nat) (SL:List UInt8) (vL:Value),Has 344 [] a [(2,.pointer (some ⟨w.heap.size,0,none⟩)),(3,.int .u8 1),(4,.int .i64 ((sz:Nat):Int)),(5,.bool neg),(7,.int .i64 ((sep:Nat):Int)),(6,vL),(9,.int .i64 ((2+nL:Nat):Int))]∧View w1 g vL SL∧nL+As AQ SL = As AQ (l2)∧SL.drop (As AQ SL) = (l2).drop (As AQ (l2))∧nL+SL.length = (l2).length∧wx = w1) (fun a _=>2+(l2).length - (intOf (a.eval (.tmp 9))).toNat) ?_ ?_)
       ·exact ⟨0,_,_,H.c,hv134,by simp,rfl,by simp,rfl⟩
       ·rintro a wx ⟨nL,SL,vL,H,hvS,hn,hd,hl,rfl⟩;have HE:=hid (H.ev (x:=.tmp 9) rfl);have Hs150:=H
        rcases SL with _ | ⟨xL,SL⟩
        ·have H:=Hs150;have hl0:(([]:List UInt8)).length = 0:=rfl
         have hn0:nL = As AQ (l2):=by have h0:As AQ [] = 0:=rfl; omega
         rw [hn0] at H;refine zs fun j151=>zr fun j152=>zm H rfl fun H=>zL Tryz.underlying22 H rfl hvS fun H=>zgf H rfl rfl fun H=>zm H rfl fun H=>zf H rfl fun H=>zf H rfl fun H=>zf H rfl fun H=>zf H rfl fun H=>zf H rfl fun H=>zu H rfl fun H=>zu H rfl fun H=>zu H rfl fun H=>?_;refine zu H rfl fun H=>zf H rfl fun H=>zf H rfl fun H=>zu H rfl fun H=>zu H rfl fun H=>zu H rfl fun H=>zu H rfl fun H=>zu H rfl fun H=>zu H rfl fun H=>zu H rfl fun H=>zu H rfl fun H=>zu H rfl fun H=>zu H rfl fun H=>zf H rfl fun H=>?_;refine zf H rfl fun H=>zu H rfl fun H=>zu H rfl fun H=>zu H rfl fun H=>zu H rfl fun H=>zu H rfl fun H=>zu H rfl fun H=>zu H rfl fun H=>zu H rfl fun H=>zu H rfl fun H=>zu H rfl fun H=>zf H rfl fun H=>zp H rfl rfl fun H=>zN (j152 ?_);refine zK H [2,3,4,5,6,7,9,102] rfl fun H=>zj H rfl ?_;exact wp_exit (te (te (A9 (tn (hJ136 _ _ H.c (by rw [←hd]; exact hvS))))))
        ·have H:=Hs150;have hlx:(xL::SL).length = SL.length+1:=rfl;have bx:=AM xL;have Hs153:=H
         cases hp:AQ xL with
         | true=>
          have H:=Hs153;have hq:=Si hp;refine zs fun j154=>zr fun j155=>zm H rfl fun H=>zL Tryz.underlying22 H rfl hvS fun H=>zgt H rfl rfl fun H=>zm H rfl fun H=>zo H rfl (zm H rfl fun H=>zo H rfl (zI H rfl rfl hvS rfl fun H hc156=>zo H rfl (zl A5 H rfl hc156 fun H=>zo H rfl (zqt H rfl rfl fun H=>?_))));refine zo H rfl (zm H rfl fun H=>zo H rfl (zm H rfl fun H=>zo H rfl (zI H rfl rfl hvS rfl fun H hc157=>zo H rfl (zl A5 H rfl hc157 fun H=>zo H rfl ?_))))
          by_cases q158:((xL.toNat:Int))≤((57:Int))
          ·refine zqt H rfl rfl fun H=>zo H rfl (zp H rfl rfl fun H=>zo H rfl (zm H rfl fun H=>zf H rfl fun H=>zf H rfl fun H=>zf H rfl fun H=>zf H rfl fun H=>zf H rfl fun H=>zu H rfl fun H=>zu H rfl fun H=>zu H rfl fun H=>zu H rfl fun H=>?_));refine zf H rfl fun H=>zo H rfl (zp H rfl rfl fun H=>zo H rfl (zm H rfl fun H=>zf H rfl fun H=>zf H rfl fun H=>zf H rfl fun H=>zf H rfl fun H=>zf H rfl fun H=>zu H rfl fun H=>zu H rfl fun H=>zu H rfl fun H=>zu H rfl fun H=>?_));refine zf H rfl fun H=>zo H rfl (zp H rfl rfl fun H=>zp H rfl rfl fun H=>zN (j155 ?_));refine zi H rfl (wp_skip (tn (j154 ?_)));refine wp_block (zr fun j159=>zm H rfl fun H=>BP Tryz.underlying22 Ag H rfl rfl hvS (by decide) (by first | omega | (simp; omega) | simp) rfl fun a v H hv160=>?_);replace hv160:View _ _ v (SL):=hv160;refine za H rfl fun H=>zN (j159 ?_);refine zK H [2,3,4,5,6,7,9] rfl fun H=>Ac (zm H rfl fun H=>Cf (r:=(((2+nL)+1:Nat):Int)) H rfl rfl fun H=>za H rfl fun H=>wpList_nil (bn (tn (⟨⟨nL+1,SL,_,H.c,hv160,?_,?_,by omega,rfl⟩,?_⟩))))
           ·have:=Bs SL hp; omega
           ·rw [←hd,Bs SL hp] <;> rfl
           ·have h2:=H.ev (x:=.tmp 9) rfl;simp only [HE.out,h2,intOf];omega
          ·refine zqf H rfl rfl fun H=>zo H rfl (zp H rfl rfl fun H=>zo H rfl (zm H rfl fun H=>zo H rfl (zm H rfl fun H=>zo H rfl (zI H rfl rfl hvS rfl fun H hc161=>zo H rfl (zl A5 H rfl hc161 fun H=>zo H rfl ?_)))))
           by_cases q162:((97:Int))≤((xL.toNat:Int))
           ·refine zqt H rfl rfl fun H=>zo H rfl (zm H rfl fun H=>zo H rfl (zm H rfl fun H=>zo H rfl (zI H rfl rfl hvS rfl fun H hc163=>zo H rfl (zl A5 H rfl hc163 fun H=>zo H rfl (zqt H rfl rfl fun H=>zo H rfl (zp H rfl rfl fun H=>zo H rfl ?_))))));refine zp H rfl rfl fun H=>zo H rfl (zm H rfl fun H=>zf H rfl fun H=>zf H rfl fun H=>zf H rfl fun H=>zf H rfl fun H=>zf H rfl fun H=>zu H rfl fun H=>zu H rfl fun H=>zu H rfl fun H=>zu H rfl fun H=>zf H rfl fun H=>zo H rfl ?_);refine zp H rfl rfl fun H=>zp H rfl rfl fun H=>zN (j155 ?_);refine zi H rfl (wp_skip (tn (j154 ?_)));refine wp_block (zr fun j164=>zm H rfl fun H=>BP Tryz.underlying22 Ag H rfl rfl hvS (by decide) (by first | omega | (simp; omega) | simp) rfl fun a v H hv165=>?_);replace hv165:View _ _ v (SL):=hv165;refine za H rfl fun H=>zN (j164 ?_);refine zK H [2,3,4,5,6,7,9] rfl fun H=>Ac (zm H rfl fun H=>Cf (r:=(((2+nL)+1:Nat):Int)) H rfl rfl fun H=>za H rfl fun H=>wpList_nil (bn (tn (⟨⟨nL+1,SL,_,H.c,hv165,?_,?_,by omega,rfl⟩,?_⟩))))
            ·have:=Bs SL hp; omega
            ·rw [←hd,Bs SL hp] <;> rfl
            ·have h2:=H.ev (x:=.tmp 9) rfl;simp only [HE.out,h2,intOf];omega
           ·refine zqf H rfl rfl fun H=>zo H rfl (zm H rfl fun H=>zf H rfl fun H=>zf H rfl fun H=>zf H rfl fun H=>zf H rfl fun H=>zo H rfl (zp H rfl rfl fun H=>zo H rfl (zp H rfl rfl fun H=>zo H rfl (zm H rfl fun H=>zo H rfl ?_))));refine zm H rfl fun H=>zo H rfl (zI H rfl rfl hvS rfl fun H hc166=>zo H rfl (zl A5 H rfl hc166 fun H=>zo H rfl (zqt H rfl rfl fun H=>zo H rfl (zm H rfl fun H=>zo H rfl (zm H rfl fun H=>zo H rfl (zI H rfl rfl hvS rfl fun H hc167=>zo H rfl ?_))))));refine zl A5 H rfl hc167 fun H=>zo H rfl (zqt H rfl rfl fun H=>zo H rfl (zp H rfl rfl fun H=>zo H rfl (zp H rfl rfl fun H=>zp H rfl rfl fun H=>zN (j155 ?_))));refine zi H rfl (wp_skip (tn (j154 ?_)));refine wp_block (zr fun j168=>zm H rfl fun H=>BP Tryz.underlying22 Ag H rfl rfl hvS (by decide) (by first | omega | (simp; omega) | simp) rfl fun a v H hv169=>?_);replace hv169:View _ _ v (SL):=hv169;refine za H rfl fun H=>zN (j168 ?_);refine zK H [2,3,4,5,6,7,9] rfl fun H=>Ac (zm H rfl fun H=>Cf (r:=(((2+nL)+1:Nat):Int)) H rfl rfl fun H=>za H rfl fun H=>wpList_nil (bn (tn (⟨⟨nL+1,SL,_,H.c,hv169,?_,?_,by omega,rfl⟩,?_⟩))))
            ·have:=Bs SL hp; omega
            ·rw [←hd,Bs SL hp] <;> rfl
            ·have h2:=H.ev (x:=.tmp 9) rfl;simp only [HE.out,h2,intOf];omega
         | false=>
          have H:=Hs153;have hq:=T0 hp
          have hn0:nL = As AQ (l2):=by have h0:=Bk SL hp; omega
          rw [hn0] at H;refine zs fun j170=>zr fun j171=>zm H rfl fun H=>zL Tryz.underlying22 H rfl hvS fun H=>zgt H rfl rfl fun H=>zm H rfl fun H=>zo H rfl (zm H rfl fun H=>zo H rfl (zI H rfl rfl hvS rfl fun H hc172=>zo H rfl (zl A5 H rfl hc172 fun H=>zo H rfl ?_)))
          by_cases q173:((48:Int))≤((xL.toNat:Int))
          ·refine zqt H rfl rfl fun H=>zo H rfl (zm H rfl fun H=>zo H rfl (zm H rfl fun H=>zo H rfl (zI H rfl rfl hvS rfl fun H hc174=>zo H rfl (zl A5 H rfl hc174 fun H=>zo H rfl (zqf H rfl rfl fun H=>zo H rfl (zp H rfl rfl fun H=>zo H rfl ?_))))));refine zm H rfl fun H=>zo H rfl (zm H rfl fun H=>zo H rfl (zI H rfl rfl hvS rfl fun H hc175=>zo H rfl (zl A5 H rfl hc175 fun H=>zo H rfl ?_)))
           by_cases q176:((97:Int))≤((xL.toNat:Int))
           ·refine zqt H rfl rfl fun H=>zo H rfl (zm H rfl fun H=>zo H rfl (zm H rfl fun H=>zo H rfl (zI H rfl rfl hvS rfl fun H hc177=>zo H rfl (zl A5 H rfl hc177 fun H=>zo H rfl (zqf H rfl rfl fun H=>zo H rfl (zp H rfl rfl fun H=>zo H rfl ?_))))));refine zp H rfl rfl fun H=>zo H rfl (zm H rfl fun H=>zo H rfl (zm H rfl fun H=>zo H rfl (zI H rfl rfl hvS rfl fun H hc178=>zo H rfl (zl A5 H rfl hc178 fun H=>zo H rfl (zqt H rfl rfl fun H=>zo H rfl (zm H rfl fun H=>zo H rfl ?_))))));refine zm H rfl fun H=>zo H rfl (zI H rfl rfl hvS rfl fun H hc179=>zo H rfl (zl A5 H rfl hc179 fun H=>zo H rfl (zqf H rfl rfl fun H=>zo H rfl (zp H rfl rfl fun H=>zo H rfl (zp H rfl rfl fun H=>zp H rfl rfl fun H=>zN (j171 ?_))))));refine zj H rfl ?_;exact wp_exit (te (te (A9 (tn (hJ136 _ _ H.c (by rw [←hd,Bk SL hp]; exact hvS))))))
           ·refine zqf H rfl rfl fun H=>zo H rfl (zm H rfl fun H=>zf H rfl fun H=>zf H rfl fun H=>zf H rfl fun H=>zf H rfl fun H=>zo H rfl (zp H rfl rfl fun H=>zo H rfl (zp H rfl rfl fun H=>zo H rfl (zm H rfl fun H=>zo H rfl ?_))));refine zm H rfl fun H=>zo H rfl (zI H rfl rfl hvS rfl fun H hc180=>zo H rfl (zl A5 H rfl hc180 fun H=>zo H rfl ?_))
            by_cases q181:((65:Int))≤((xL.toNat:Int))
            ·refine zqt H rfl rfl fun H=>zo H rfl (zm H rfl fun H=>zo H rfl (zm H rfl fun H=>zo H rfl (zI H rfl rfl hvS rfl fun H hc182=>zo H rfl (zl A5 H rfl hc182 fun H=>zo H rfl (zqf H rfl rfl fun H=>zo H rfl (zp H rfl rfl fun H=>zo H rfl ?_))))));refine zp H rfl rfl fun H=>zp H rfl rfl fun H=>zN (j171 ?_);refine zj H rfl ?_;exact wp_exit (te (te (A9 (tn (hJ136 _ _ H.c (by rw [←hd,Bk SL hp]; exact hvS))))))
            ·refine zqf H rfl rfl fun H=>zo H rfl (zm H rfl fun H=>zf H rfl fun H=>zf H rfl fun H=>zf H rfl fun H=>zf H rfl fun H=>zo H rfl (zp H rfl rfl fun H=>zo H rfl (zp H rfl rfl fun H=>zp H rfl rfl fun H=>zN (j171 ?_))));refine zK H [2,3,4,5,6,7,9,102] rfl fun H=>zj H rfl ?_;exact wp_exit (te (te (A9 (tn (hJ136 _ _ H.c (by rw [←hd,Bk SL hp]; exact hvS))))))
          ·refine zqf H rfl rfl fun H=>zo H rfl (zm H rfl fun H=>zf H rfl fun H=>zf H rfl fun H=>zf H rfl fun H=>zf H rfl fun H=>zo H rfl (zp H rfl rfl fun H=>zo H rfl (zm H rfl fun H=>zo H rfl (zm H rfl fun H=>zo H rfl ?_))));refine zI H rfl rfl hvS rfl fun H hc183=>zo H rfl (zl A5 H rfl hc183 fun H=>zo H rfl (zqf H rfl rfl fun H=>zo H rfl (zm H rfl fun H=>zf H rfl fun H=>zf H rfl fun H=>zf H rfl fun H=>zf H rfl fun H=>zo H rfl (zp H rfl rfl fun H=>zo H rfl ?_))));refine zp H rfl rfl fun H=>zo H rfl (zm H rfl fun H=>zo H rfl (zm H rfl fun H=>zo H rfl (zI H rfl rfl hvS rfl fun H hc184=>zo H rfl (zl A5 H rfl hc184 fun H=>zo H rfl (zqf H rfl rfl fun H=>zo H rfl (zm H rfl fun H=>zf H rfl fun H=>?_))))));refine zf H rfl fun H=>zf H rfl fun H=>zf H rfl fun H=>zo H rfl (zp H rfl rfl fun H=>zo H rfl (zp H rfl rfl fun H=>zp H rfl rfl fun H=>zN (j171 ?_)));refine zj H rfl ?_;exact wp_exit (te (te (A9 (tn (hJ136 _ _ H.c (by rw [←hd,Bk SL hp]; exact hvS))))))
      | false=>
       have H:=Hs130;rw [hx] at H;refine zj H rfl (zr fun j185=>zm H rfl fun H=>zI H rfl rfl hv2 rfl fun H hc186=>zl A5 H rfl hc186 fun H=>?_)
       by_cases q187:((48:Int))≤((d1.toNat:Int))
       ·refine zqt H rfl rfl fun H=>zm H rfl fun H=>zo H rfl (zm H rfl fun H=>zo H rfl (zI H rfl rfl hv2 rfl fun H hc188=>zo H rfl (zl A5 H rfl hc188 fun H=>zo H rfl ?_)))
        by_cases q189:((d1.toNat:Int))≤((55:Int))
        ·refine zqt H rfl rfl fun H=>zp H rfl rfl fun H=>za H rfl fun H=>zN (j185 ?_);refine zK H [2,3,4,5,6,7,113] rfl fun H=>zi H rfl (zs fun j190=>?_);have ho:AG d1 = true:=TU (by omega) (by omega);refine Ac (za H rfl fun H=>zN (j190 ?_));refine zr fun j191=>za H rfl fun H=>zN (j191 ?_);refine zr fun j192=>zm H rfl fun H=>BP Tryz.underlying22 Ag H rfl rfl hv2 (by decide) (by first | omega | (simp; omega) | simp) rfl fun a v H hv193=>?_;replace hv193:View _ _ v (l2):=hv193;refine za H rfl fun H=>zN (j192 ?_);refine zK H [2,3,4,5,6,7,10] rfl fun H=>BM fun K194 hK194=>?_;have hrl195:=Bp AG (l2)
         have hJ195:∀ (a:Act) (v:Value),Has 344 [] a [(2,.pointer (some ⟨w.heap.size,0,none⟩)),(3,.int .u8 2),(4,.int .i64 ((sz:Nat):Int)),(5,.bool neg),(7,.int .i64 ((sep:Nat):Int)),(6,v),(10,.int .i64 ((2+As AG (l2):Nat):Int))]→View w1 g v ((l2).drop (As AG (l2)))→K194 a w1:=by
          intro a v H hv195;refine hK194 _ _ (Ac (zm H rfl fun H=>zm H rfl fun H=>Cf (r:=((sz+(2+As AG (l2)):Nat):Int)) H rfl rfl fun H=>za H rfl fun H=>wpList_nil (bn (tn (j128 ?_)))));refine zr fun j196=>zm H rfl fun H=>QT (r:=(2:Int)) H rfl rfl (by kernel_rfl) rfl fun a H=>zgt H rfl rfl fun H=>zN (j196 ?_);refine zi H rfl (zs fun j197=>zs fun j198=>?_);have Hs199:=H
          rcases hS:l2.drop (As AG l2) with _ | ⟨x,S⟩
          ·have H:=Hs199;have hvE:View w1 g _ ([]:List UInt8):=hS ▸ hv195;have hlE:(([]:List UInt8)).length = 0:=rfl;refine Ac (zm H rfl fun H=>zL Tryz.underlying22 H rfl hvE fun H=>zgf H rfl rfl fun H=>zm H rfl fun H=>zf H rfl fun H=>zf H rfl fun H=>zf H rfl fun H=>zf H rfl fun H=>zf H rfl fun H=>zp H rfl rfl fun H=>zN (j198 ?_));refine zK H [2,3,4,5,6,7,10,160] rfl fun H=>zj H rfl (wp_skip (tn (j197 ?_)));refine zr fun j200=>zm H rfl fun H=>zm H rfl fun H=>zm H rfl fun H=>zm H rfl fun H=>zB (F4 _ _ _ _) H rfl fun H=>AJ (vs:=[_,_,_,_]) H rfl rfl R0.out rfl (by kernel_rfl) (by simp [Value.oneCell']) fun w2 hr2 hg2=>zN (j200 ?_);refine wp_ret (tr (br (tr (?_))));refine C5 H rfl hr2 (BT HB.out hg2 (Nat.le_refl _) HB.out.size) ?_
           rw [show Z = some ⟨2,neg,sz+(2+As AG l2),sep⟩ from by rw [HN.out,Md h48 hx ho,hS] <;> rfl] <;> rfl
          ·have H:=Hs199;have hvE:View w1 g _ (x::S):=hS ▸ hv195;have hlE:(x::S).length = S.length+1:=rfl;have Hs201:=H
           cases hde:DI x with
           | true=>
            have H:=Hs201;refine Ac (zm H rfl fun H=>zL Tryz.underlying22 H rfl hvE fun H=>zgt H rfl rfl fun H=>zm H rfl fun H=>zo H rfl (zm H rfl fun H=>zo H rfl (zI H rfl rfl hvE rfl fun H hc202=>zo H rfl (zl A5 H rfl hc202 fun H=>zo H rfl (zC E6 H rfl (Calls.mono (CU x w1) ?_))))));rintro e w2 ⟨rfl,rfl⟩;rw [hde];refine zR fun H=>zo H rfl (FD H rfl fun H=>zp H rfl rfl fun H=>zN (j198 ?_));refine zK H [2,3,4,5,6,7,10,160] rfl fun H=>zj H rfl (wp_skip (tn (j197 ?_)));refine zr fun j203=>zm H rfl fun H=>zm H rfl fun H=>zm H rfl fun H=>zm H rfl fun H=>zB (F4 _ _ _ _) H rfl fun H=>AJ (vs:=[_,_,_,_]) H rfl rfl R0.out rfl (by kernel_rfl) (by simp [Value.oneCell']) fun w2 hr2 hg2=>zN (j203 ?_);refine wp_ret (tr (br (tr (?_))));refine C5 H rfl hr2 (BT HB.out hg2 (Nat.le_refl _) HB.out.size) ?_
            rw [show Z = some ⟨2,neg,sz+(2+As AG l2),sep⟩ from by rw [HN.out,Md h48 hx ho,hS,F2,hde] <;> rfl] <;> rfl
           | false=>
            have H:=Hs201;refine Ac (zm H rfl fun H=>zL Tryz.underlying22 H rfl hvE fun H=>zgt H rfl rfl fun H=>zm H rfl fun H=>zo H rfl (zm H rfl fun H=>zo H rfl (zI H rfl rfl hvE rfl fun H hc204=>zo H rfl (zl A5 H rfl hc204 fun H=>zo H rfl (zC E6 H rfl (Calls.mono (CU x w1) ?_))))));rintro e w2 ⟨rfl,rfl⟩;rw [hde];refine zR fun H=>zo H rfl (FD H rfl fun H=>zp H rfl rfl fun H=>zN (j198 ?_));refine zK H [2,3,4,5,6,7,10,160] rfl fun H=>zi H rfl (zr fun j205=>zB C2 H rfl fun H=>AJ (vs:=[_,_,_,_]) H rfl rfl R0.out rfl (by kernel_rfl) (by simp [Value.oneCell']) fun w2 hr2 hg2=>zN (j205 ?_));refine wp_ret (tr (tr (br (tr (?_)))));refine C5 H rfl hr2 (BT HB.out hg2 (Nat.le_refl _) HB.out.size) ?_
            rw [show Z = none from by rw [HN.out,Md h48 hx ho,hS,F2,hde] <;> rfl] <;> rfl
         refine wp_block (wp_loop (fun a wx=>∃ (nL:Nat) (SL:List UInt8) (vL:Value),Has 344 [] a [(2,.pointer (some ⟨w.heap.size,0,none⟩)),(3,.int .u8 2),(4,.int .i64 ((sz:Nat):Int)),(5,.bool neg),(7,.int .i64 ((sep:Nat):Int)),(6,vL),(10,.int .i64 ((2+nL:Nat):Int))]∧View w1 g vL SL∧nL+As AG SL = As AG (l2)∧SL.drop (As AG SL) = (l2).drop (As AG (l2))∧nL+SL.length = (l2).length∧wx = w1) (fun a _=>2+(l2).length - (intOf (a.eval (.tmp 10))).toNat) ?_ ?_)
         ·exact ⟨0,_,_,H.c,hv193,by simp,rfl,by simp,rfl⟩
         ·rintro a wx ⟨nL,SL,vL,H,hvS,hn,hd,hl,rfl⟩;have HE:=hid (H.ev (x:=.tmp 10) rfl);have Hs206:=H
          rcases SL with _ | ⟨xL,SL⟩
          ·have H:=Hs206;have hl0:(([]:List UInt8)).length = 0:=rfl
           have hn0:nL = As AG (l2):=by have h0:As AG [] = 0:=rfl; omega
           rw [hn0] at H;refine zs fun j207=>zr fun j208=>zm H rfl fun H=>zL Tryz.underlying22 H rfl hvS fun H=>zgf H rfl rfl fun H=>zm H rfl fun H=>zf H rfl fun H=>zf H rfl fun H=>zf H rfl fun H=>zf H rfl fun H=>zp H rfl rfl fun H=>zm H rfl fun H=>zf H rfl fun H=>zf H rfl fun H=>?_;refine zf H rfl fun H=>zf H rfl fun H=>zp H rfl rfl fun H=>zN (j208 ?_);refine zj H rfl ?_;exact wp_exit (te (te (A9 (tn (hJ195 _ _ H.c (by rw [←hd]; exact hvS))))))
          ·have H:=Hs206;have hlx:(xL::SL).length = SL.length+1:=rfl;have bx:=AM xL;have Hs209:=H
           cases hp:AG xL with
           | true=>
            have H:=Hs209;have hq:=Sh hp;refine zs fun j210=>zr fun j211=>zm H rfl fun H=>zL Tryz.underlying22 H rfl hvS fun H=>zgt H rfl rfl fun H=>zm H rfl fun H=>zo H rfl (zm H rfl fun H=>zo H rfl (zI H rfl rfl hvS rfl fun H hc212=>zo H rfl (zl A5 H rfl hc212 fun H=>zo H rfl (zqt H rfl rfl fun H=>?_))));refine zp H rfl rfl fun H=>zm H rfl fun H=>zo H rfl (zm H rfl fun H=>zo H rfl (zI H rfl rfl hvS rfl fun H hc213=>zo H rfl (zl A5 H rfl hc213 fun H=>zo H rfl (zqt H rfl rfl fun H=>zp H rfl rfl fun H=>zN (j211 ?_)))));refine zi H rfl (wp_skip (tn (j210 ?_)));refine zK H [2,3,4,5,6,7,10] rfl fun H=>wp_block (zr fun j214=>zm H rfl fun H=>BP Tryz.underlying22 Ag H rfl rfl hvS (by decide) (by first | omega | (simp; omega) | simp) rfl fun a v H hv215=>?_);replace hv215:View _ _ v (SL):=hv215;refine za H rfl fun H=>zN (j214 ?_);refine Ac (zm H rfl fun H=>Cf (r:=(((2+nL)+1:Nat):Int)) H rfl rfl fun H=>za H rfl fun H=>wpList_nil (bn (tn (⟨⟨nL+1,SL,_,H.c,hv215,?_,?_,by omega,rfl⟩,?_⟩))))
            ·have:=Bs SL hp; omega
            ·rw [←hd,Bs SL hp] <;> rfl
            ·have h2:=H.ev (x:=.tmp 10) rfl;simp only [HE.out,h2,intOf];omega
           | false=>
            have H:=Hs209;have hq:=TV hp
            have hn0:nL = As AG (l2):=by have h0:=Bk SL hp; omega
            rw [hn0] at H;refine zs fun j216=>zr fun j217=>zm H rfl fun H=>zL Tryz.underlying22 H rfl hvS fun H=>zgt H rfl rfl fun H=>zm H rfl fun H=>zo H rfl (zm H rfl fun H=>zo H rfl (zI H rfl rfl hvS rfl fun H hc218=>zo H rfl (zl A5 H rfl hc218 fun H=>zo H rfl ?_)))
            by_cases q219:((48:Int))≤((xL.toNat:Int))
            ·refine zqt H rfl rfl fun H=>zp H rfl rfl fun H=>zm H rfl fun H=>zo H rfl (zm H rfl fun H=>zo H rfl (zI H rfl rfl hvS rfl fun H hc220=>zo H rfl (zl A5 H rfl hc220 fun H=>zo H rfl (zqf H rfl rfl fun H=>zp H rfl rfl fun H=>zN (j217 ?_)))));refine zj H rfl ?_;exact wp_exit (te (te (A9 (tn (hJ195 _ _ H.c (by rw [←hd,Bk SL hp]; exact hvS))))))
            ·refine zqf H rfl rfl fun H=>zp H rfl rfl fun H=>zm H rfl fun H=>zf H rfl fun H=>zf H rfl fun H=>zf H rfl fun H=>zf H rfl fun H=>zp H rfl rfl fun H=>zN (j217 ?_);refine zK H [2,3,4,5,6,7,10,140] rfl fun H=>zj H rfl ?_;exact wp_exit (te (te (A9 (tn (hJ195 _ _ H.c (by rw [←hd,Bk SL hp]; exact hvS))))))
        ·refine zqf H rfl rfl fun H=>zp H rfl rfl fun H=>za H rfl fun H=>zN (j185 ?_);have ho:AG d1 = false:=Nm (by omega);refine zj H rfl (wp_skip (bn (tn (j128 ?_))));refine zr fun j221=>zm H rfl fun H=>QT (r:=(0:Int)) H rfl rfl (by kernel_rfl) rfl fun a H=>zgf H rfl rfl fun H=>zN (j221 ?_);refine zK H [2,3,4,5,6,7,150] rfl fun H=>zj H rfl (wp_skip (tn (j123 ?_)));refine zr fun j222=>zm H rfl fun H=>BP Tryz.underlying22 Ag H rfl rfl hv2 (by decide) (by first | omega | (simp; omega) | simp) rfl fun a v H hv223=>?_;replace hv223:View _ _ v (d1::l2):=hv223;refine za H rfl fun H=>zN (j222 ?_);refine Ac (zm H rfl fun H=>Cf (r:=((sz+1:Nat):Int)) H rfl rfl fun H=>za H rfl fun H=>?_);exact wpList_nil (bn (tn (hJs _ 0 1 _ _ _ H.c hv223 (.inl rfl) rfl (by simp; try omega) (hid (Mc h48 hx ho)))))
       ·refine zqf H rfl rfl fun H=>zm H rfl fun H=>zf H rfl fun H=>zf H rfl fun H=>zf H rfl fun H=>zf H rfl fun H=>zp H rfl rfl fun H=>za H rfl fun H=>zN (j185 ?_);refine zK H [2,3,4,5,6,7,113] rfl fun H=>?_;have ho:AG d1 = false:=Nm (by omega);refine zj H rfl (wp_skip (bn (tn (j128 ?_))));refine zr fun j224=>zm H rfl fun H=>QT (r:=(0:Int)) H rfl rfl (by kernel_rfl) rfl fun a H=>zgf H rfl rfl fun H=>zN (j224 ?_);refine zj H rfl (wp_skip (tn (j123 ?_)));refine zK H [2,3,4,5,6,7] rfl fun H=>zr fun j225=>zm H rfl fun H=>BP Tryz.underlying22 Ag H rfl rfl hv2 (by decide) (by first | omega | (simp; omega) | simp) rfl fun a v H hv226=>?_;replace hv226:View _ _ v (d1::l2):=hv226;refine za H rfl fun H=>zN (j225 ?_);refine Ac (zm H rfl fun H=>Cf (r:=((sz+1:Nat):Int)) H rfl rfl fun H=>za H rfl fun H=>?_);exact wpList_nil (bn (tn (hJs _ 0 1 _ _ _ H.c hv226 (.inl rfl) rfl (by simp; try omega) (hid (Mc h48 hx ho)))))
     refine Ac (zm H rfl fun H=>zI H rfl rfl hv2 rfl fun H hc227=>zl A5 H rfl hc227 fun H=>?_)
     by_cases q228:((d1.toNat:Int)) = ((120:Int))
     ·refine zet H rfl rfl fun H=>zm H rfl fun H=>zf H rfl fun H=>zf H rfl fun H=>zf H rfl fun H=>zf H rfl fun H=>zp H rfl rfl fun H=>za H rfl fun H=>?_;exact zN (hJx _ (by rw [show xB d1 = true from xB_t (by omega)]; exact H.c))
     ·refine zef H rfl rfl fun H=>zm H rfl fun H=>zo H rfl (zm H rfl fun H=>zo H rfl (zI H rfl rfl hv2 rfl fun H hc229=>zo H rfl (zl A5 H rfl hc229 fun H=>zo H rfl ?_)))
      by_cases q230:((d1.toNat:Int)) = ((88:Int))
      ·refine zet H rfl rfl fun H=>zp H rfl rfl fun H=>za H rfl fun H=>?_;exact zN (hJx _ (by rw [show xB d1 = true from xB_t (by omega)]; exact H.c))
      ·refine zef H rfl rfl fun H=>zp H rfl rfl fun H=>za H rfl fun H=>?_;exact zN (hJx _ (by rw [show xB d1 = false from xB_f (by omega)]; exact H.c))
   ·refine zef H rfl rfl fun H=>za H rfl fun H=>zN (j120 ?_);refine zj H rfl (zr fun j231=>zm H rfl fun H=>zI H rfl rfl hv2 rfl fun H hc232=>zl A5 H rfl hc232 fun H=>?_)
    by_cases q233:((49:Int))≤((c1.toNat:Int))
    ·refine zqt H rfl rfl fun H=>zm H rfl fun H=>zo H rfl (zm H rfl fun H=>zo H rfl (zI H rfl rfl hv2 rfl fun H hc234=>zo H rfl (zl A5 H rfl hc234 fun H=>zo H rfl ?_)))
     by_cases q235:((c1.toNat:Int))≤((57:Int))
     ·refine zqt H rfl rfl fun H=>zp H rfl rfl fun H=>za H rfl fun H=>zN (j231 ?_);refine zK H [2,3,4,5,6,7,171] rfl fun H=>zi H rfl (zr fun j236=>za H rfl fun H=>zN (j236 ?_));refine zr fun j237=>zm H rfl fun H=>BP Tryz.underlying22 Ag H rfl rfl hv2 (by decide) (by first | omega | (simp; omega) | simp) rfl fun a v H hv238=>?_;replace hv238:View _ _ v (l1):=hv238;refine za H rfl fun H=>zN (j237 ?_);refine BM fun K239 hK239=>?_;have hrl240:=Bp AZ (l1)
      have hJ240:∀ (a:Act) (v:Value),Has 344 [] a [(2,.pointer (some ⟨w.heap.size,0,none⟩)),(3,.int .u8 0),(4,.int .i64 ((sz:Nat):Int)),(5,.bool neg),(7,.int .i64 ((sep:Nat):Int)),(6,v),(11,.int .i64 ((1+As AZ (l1):Nat):Int))]→View w1 g v ((l1).drop (As AZ (l1)))→K239 a w1:=by
       intro a v H hv240;refine hK239 _ _ (Ac (zm H rfl fun H=>zm H rfl fun H=>Cf (r:=((sz+(1+As AZ (l1)):Nat):Int)) H rfl rfl fun H=>za H rfl fun H=>?_));exact wpList_nil (bn (tn (hJs _ 0 _ _ _ _ H.c hv240 (.inl rfl) rfl (by have:=List.length_drop (i:=As AZ l1) (l:=l1); have:=Bp AZ l1; omega) (hid (numB_dg l1 (by omega) (by omega))))))
      refine wp_block (wp_loop (fun a wx=>∃ (nL:Nat) (SL:List UInt8) (vL:Value),Has 344 [] a [(2,.pointer (some ⟨w.heap.size,0,none⟩)),(3,.int .u8 0),(4,.int .i64 ((sz:Nat):Int)),(5,.bool neg),(7,.int .i64 ((sep:Nat):Int)),(6,vL),(11,.int .i64 ((1+nL:Nat):Int))]∧View w1 g vL SL∧nL+As AZ SL = As AZ (l1)∧SL.drop (As AZ SL) = (l1).drop (As AZ (l1))∧nL+SL.length = (l1).length∧wx = w1) (fun a _=>1+(l1).length - (intOf (a.eval (.tmp 11))).toNat) ?_ ?_)
      ·exact ⟨0,_,_,H.c,hv238,by simp,rfl,by simp,rfl⟩
      ·rintro a wx ⟨nL,SL,vL,H,hvS,hn,hd,hl,rfl⟩;have HE:=hid (H.ev (x:=.tmp 11) rfl);have Hs241:=H
       rcases SL with _ | ⟨xL,SL⟩
       ·have H:=Hs241;have hl0:(([]:List UInt8)).length = 0:=rfl
        have hn0:nL = As AZ (l1):=by have h0:As AZ [] = 0:=rfl; omega
        rw [hn0] at H;refine zs fun j242=>zr fun j243=>zm H rfl fun H=>zL Tryz.underlying22 H rfl hvS fun H=>zgf H rfl rfl fun H=>zm H rfl fun H=>zf H rfl fun H=>zf H rfl fun H=>zf H rfl fun H=>zf H rfl fun H=>zp H rfl rfl fun H=>zm H rfl fun H=>zf H rfl fun H=>zf H rfl fun H=>?_;refine zf H rfl fun H=>zf H rfl fun H=>zp H rfl rfl fun H=>zN (j243 ?_);refine zK H [2,3,4,5,6,7,11,198] rfl fun H=>zj H rfl ?_;exact wp_exit (te (te (A9 (tn (hJ240 _ _ H.c (by rw [←hd]; exact hvS))))))
       ·have H:=Hs241;have hlx:(xL::SL).length = SL.length+1:=rfl;have bx:=AM xL;have Hs244:=H
        cases hp:AZ xL with
        | true=>
         have H:=Hs244;have hq:=Mr hp;refine zs fun j245=>zr fun j246=>zm H rfl fun H=>zL Tryz.underlying22 H rfl hvS fun H=>zgt H rfl rfl fun H=>zm H rfl fun H=>zo H rfl (zm H rfl fun H=>zo H rfl (zI H rfl rfl hvS rfl fun H hc247=>zo H rfl (zl A5 H rfl hc247 fun H=>zo H rfl (zqt H rfl rfl fun H=>?_))));refine zp H rfl rfl fun H=>zm H rfl fun H=>zo H rfl (zm H rfl fun H=>zo H rfl (zI H rfl rfl hvS rfl fun H hc248=>zo H rfl (zl A5 H rfl hc248 fun H=>zo H rfl (zqt H rfl rfl fun H=>zp H rfl rfl fun H=>zN (j246 ?_)))));refine zi H rfl (wp_skip (tn (j245 ?_)));refine wp_block (zr fun j249=>zm H rfl fun H=>BP Tryz.underlying22 Ag H rfl rfl hvS (by decide) (by first | omega | (simp; omega) | simp) rfl fun a v H hv250=>?_);replace hv250:View _ _ v (SL):=hv250;refine za H rfl fun H=>zN (j249 ?_);refine zK H [2,3,4,5,6,7,11] rfl fun H=>Ac (zm H rfl fun H=>Cf (r:=(((1+nL)+1:Nat):Int)) H rfl rfl fun H=>za H rfl fun H=>wpList_nil (bn (tn (⟨⟨nL+1,SL,_,H.c,hv250,?_,?_,by omega,rfl⟩,?_⟩))))
         ·have:=Bs SL hp; omega
         ·rw [←hd,Bs SL hp] <;> rfl
         ·have h2:=H.ev (x:=.tmp 11) rfl;simp only [HE.out,h2,intOf];omega
        | false=>
         have H:=Hs244;have hq:=Od hp
         have hn0:nL = As AZ (l1):=by have h0:=Bk SL hp; omega
         rw [hn0] at H;refine zs fun j251=>zr fun j252=>zm H rfl fun H=>zL Tryz.underlying22 H rfl hvS fun H=>zgt H rfl rfl fun H=>zm H rfl fun H=>zo H rfl (zm H rfl fun H=>zo H rfl (zI H rfl rfl hvS rfl fun H hc253=>zo H rfl (zl A5 H rfl hc253 fun H=>zo H rfl ?_)))
         by_cases q254:((48:Int))≤((xL.toNat:Int))
         ·refine zqt H rfl rfl fun H=>zp H rfl rfl fun H=>zm H rfl fun H=>zo H rfl (zm H rfl fun H=>zo H rfl (zI H rfl rfl hvS rfl fun H hc255=>zo H rfl (zl A5 H rfl hc255 fun H=>zo H rfl (zqf H rfl rfl fun H=>zp H rfl rfl fun H=>zN (j252 ?_)))));refine zj H rfl ?_;exact wp_exit (te (te (A9 (tn (hJ240 _ _ H.c (by rw [←hd,Bk SL hp]; exact hvS))))))
         ·refine zqf H rfl rfl fun H=>zp H rfl rfl fun H=>zm H rfl fun H=>zf H rfl fun H=>zf H rfl fun H=>zf H rfl fun H=>zf H rfl fun H=>zp H rfl rfl fun H=>zN (j252 ?_);refine zj H rfl ?_;exact wp_exit (te (te (A9 (tn (hJ240 _ _ H.c (by rw [←hd,Bk SL hp]; exact hvS))))))
     ·refine zqf H rfl rfl fun H=>zp H rfl rfl fun H=>za H rfl fun H=>zN (j231 ?_);refine zK H [2,3,4,5,6,7,171] rfl fun H=>zj H rfl (zr fun j256=>zm H rfl fun H=>zI H rfl rfl hv2 rfl fun H hc257=>zl A5 H rfl hc257 fun H=>zef H rfl rfl fun H=>za H rfl fun H=>zN (j256 ?_));refine zj H rfl (zr fun j258=>zB C2 H rfl fun H=>AJ (vs:=[_,_,_,_]) H rfl rfl R0.out rfl (by kernel_rfl) (by simp [Value.oneCell']) fun w2 hr2 hg2=>zN (j258 ?_));refine wp_ret (br (tr (?_)));refine C5 H rfl hr2 (BT HB.out hg2 (Nat.le_refl _) HB.out.size) ?_
      rw [show Z = none from by rw [HN.out,Rg (by omega) (by omega) (by omega)] <;> rfl] <;> rfl
    ·refine zqf H rfl rfl fun H=>zm H rfl fun H=>zf H rfl fun H=>zf H rfl fun H=>zf H rfl fun H=>zf H rfl fun H=>zp H rfl rfl fun H=>za H rfl fun H=>zN (j231 ?_);refine zK H [2,3,4,5,6,7,171] rfl fun H=>zj H rfl (zr fun j259=>zm H rfl fun H=>zI H rfl rfl hv2 rfl fun H hc260=>zl A5 H rfl hc260 fun H=>?_)
     by_cases q261:((c1.toNat:Int)) = ((46:Int))
     ·refine zet H rfl rfl fun H=>za H rfl fun H=>zN (j259 ?_);refine zi H rfl (Ac (za H rfl fun H=>?_));exact wpList_nil (bn (tn (hJs _ 4 0 _ _ _ H.c hv2 (.inr rfl) rfl (by simp) (hid (numB_pt l1 (by omega))))))
     ·refine zef H rfl rfl fun H=>za H rfl fun H=>zN (j259 ?_);refine zj H rfl (zr fun j262=>zB C2 H rfl fun H=>AJ (vs:=[_,_,_,_]) H rfl rfl R0.out rfl (by kernel_rfl) (by simp [Value.oneCell']) fun w2 hr2 hg2=>zN (j262 ?_));refine zK H [2,3,4,5,6,7] rfl fun H=>wp_ret (br (tr (?_)));refine C5 H rfl hr2 (BT HB.out hg2 (Nat.le_refl _) HB.out.size) ?_
      rw [show Z = none from by rw [HN.out,Rg (by omega) (by omega) (by omega)] <;> rfl] <;> rfl
  by_cases h45:c.toNat = 45
  ·rw [show ((c.toNat:Int) == 45) = true from ieq_t (by omega)] at H;refine zi H rfl (zr fun j263=>za H rfl fun H=>zN (j263 ?_));refine zr fun j264=>zm H rfl fun H=>BP Tryz.underlying22 Ag H rfl rfl hv1 (by decide) (by first | omega | (simp; omega) | simp) rfl fun a v H hv265=>?_;replace hv265:View _ _ v (l):=hv265;refine za H rfl fun H=>zN (j264 ?_);refine zr fun j266=>zm H rfl fun H=>Cf (r:=((1:Nat):Int)) H rfl rfl fun H=>za H rfl fun H=>zN (j266 ?_);refine zK H [2,3,4,5,6,7] rfl fun H=>zr fun j267=>zm H rfl fun H=>zL Tryz.underlying22 H rfl hv265 fun H=>za H rfl fun H=>zN (j267 ?_);refine zr fun j268=>zm H rfl fun H=>?_;have HC:=HY _ l 0 g w1 hv265 (Nat.zero_le _) (by omega);simp only [List.drop_zero,Nat.zero_add] at HC;refine zC E7 H rfl (Calls.mono HC ?_);rintro e w2 ⟨v3,rfl,hv3,rfl⟩;refine zR fun H=>?_;have hdl:(l.drop (skT false l)).length = l.length - skT false l:=List.length_drop;have hsk:=Je false l;refine za H rfl fun H=>zN (j268 ?_);refine zr fun j269=>zm H rfl fun H=>zm H rfl fun H=>zL Tryz.underlying22 H rfl hv3 fun H=>DY (r:=((skT false l:Nat):Int)) H rfl rfl fun H=>za H rfl fun H=>zN (j269 ?_);refine zK H [2,3,4,5,6,7] rfl fun H=>zr fun j270=>zm H rfl fun H=>zm H rfl fun H=>Cf (r:=((1+(skT false l):Nat):Int)) H rfl rfl fun H=>za H rfl fun H=>zN (j270 ?_);refine zs fun j271=>?_;have Hs272:=H
   rcases hS:l.drop (skT false l) with _ | ⟨c2,l2⟩
   ·have H:=Hs272;rw [hS] at hv3 hdl;have hl2:(([]:List UInt8)).length = 0:=rfl;refine Ac (zm H rfl fun H=>zL Tryz.underlying22 H rfl hv3 fun H=>zet H rfl rfl fun H=>zN (j271 ?_));refine zi H rfl (zr fun j273=>zB C2 H rfl fun H=>AJ (vs:=[_,_,_,_]) H rfl rfl R0.out rfl (by kernel_rfl) (by simp [Value.oneCell']) fun w2 hr2 hg2=>zN (j273 ?_));refine zK H [2,3,4,5,6,7] rfl fun H=>wp_ret (tr (?_));refine C5 H rfl hr2 (BT HB.out hg2 (Nat.le_refl _) HB.out.size) ?_
    rw [show Z = none from by rw [←HZ.out,Mb l h45,hS] <;> rfl] <;> rfl
   ·have H:=Hs272;rw [hS] at hv3 hdl;have hl2:(c2::l2).length = l2.length+1:=rfl;refine Ac (zm H rfl fun H=>zL Tryz.underlying22 H rfl hv3 fun H=>zef H rfl rfl fun H=>zN (j271 ?_));refine zj H rfl ?_;exact wp_skip (tn (hJ0 _ _ _ _ _ _ _ H.c hv3 (by omega) (hid (by rw [←HZ.out,Mb l h45,hS]))))
  ·rw [show ((c.toNat:Int) == 45) = false from ieq_f (by omega)] at H;refine zj H rfl ?_;exact wp_skip (tn (hJ0 _ 0 0 _ _ _ _ H.c hv1 (by omega) (hid (by rw [←HZ.out]; exact Qr l h45))))
end Go.Proofs.YtgdnpnipahegaaaGreatDoor
