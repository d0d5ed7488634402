/-
 The package's reader of the text form: the fields that it writes; what is open, walked.
-/
import Derived.Test.YtgdnpnipahegaaaGreatDoorQ6
import Derived.StillTailTactics
import Derived.BigQuiet
namespace Go.Proofs.YtgdnpnipahegaaaGreatDoor
open Go.ChangeShapes Go.WideShapes Go.ChangeAt Go.RowKit
variable {B p g:Nat} {bs:List UInt8} {vr ve vst vo vi:Value} {s:DT} {w:World}
def StOk (st:List UInt8):Prop:=∀ c ∈ st,c.toNat = 123∨c.toNat = 60∨c.toNat = 91
theorem StOk.nil:StOk []:=by intro c hc; cases hc
theorem StOk.push {st:List UInt8} (h:StOk st) {c:UInt8} (hc:c.toNat = 123∨c.toNat = 60∨c.toNat = 91):StOk (st++[c]):=by
 intro d hd
 rcases List.mem_append.1 hd with h1 | h1
 ·exact h d h1
 ·simp at h1; subst h1; exact hc
theorem StOk.pop {st:List UInt8} (h:StOk st):StOk st.dropLast:=fun c hc=>h c (List.dropLast_subset _ hc)
theorem DW.setTok (h:DW B p g bs vr ve vst vo vi s w) (t:TT) {vr':Value} (hv:View w g vr' t.raw) :
  DW B p g bs vr' ve vst vo vi { s with tok:=t } ((((((w.setCell ⟨p,1,none⟩ (.int .u8 (t.kind:Int))).setCell ⟨p,2,none⟩ (.int .u8 (IY t:Int))).setCell ⟨p,3,none⟩ (.int .u8 (t.na:Int))).setCell ⟨p,4,none⟩ (.int .i64 (t.pos:Int))).setCell ⟨p,5,none⟩ vr').setCell ⟨p,6,none⟩ (.string ⟨t.str.toArray⟩)):=
 h.reset (Cw (Cw (Cw (Cw (Cw (AF w p 1 _) 2 _) 3 _) 4 _) 5 _) 6 _)
  (by have:=(((((h.row.set 1 (by simp [Ep,AA]) (.int .u8 (t.kind:Int))).set 2 (by simp [Ep,AA]) (.int .u8 (IY t:Int))).set 3 (by simp [Ep,AA]) (.int .u8 (t.na:Int))).set 4 (by simp [Ep,AA]) (.int .i64 (t.pos:Int))).set 5 (by simp [Ep,AA]) vr').set 6 (by simp [Ep,AA]) (.string ⟨t.str.toArray⟩); exact this)
  hv h.err rfl h.inn h.le
theorem DW.setErr (h:DW B p g bs vr ve vst vo vi s w) {ve':Value} {b:Bool} (he:Rv ve' b):DW B p g bs vr ve' vst vo vi { s with bad:=b } (w.setCell ⟨p,7,none⟩ ve'):=
 h.reset (AF w p 7 _) (by have:=h.row.set 7 (by simp [Ep,AA]) ve'; exact this) h.raw he rfl h.inn h.le
theorem DW.push {w':World} {v':Value} {st':List UInt8} (h:DW B p g bs vr ve vst vo vi s w) (hg:w.grownBy w' vst.ownBlock) (hown:OwnB w' B 5 v' st') (hl:v'.ownBlock = vst.ownBlock∨v'.ownBlock = some w.heap.size) :
  DW B p g bs vr ve v' vo vi { s with st:=st' } (w'.setCell ⟨p,8,none⟩ v')∧DStep p vst w v' (w'.setCell ⟨p,8,none⟩ v'):=by
 have hpb:w'.heap[p]? = w.heap[p]?:=hg.block p h.lt (fun e=>h.ps e.symm);have hgb:w'.heap[g]? = w.heap[g]?:=hg.block g h.gl (fun e=>h.gs e.symm)
 have hnp:v'.ownBlock≠some p:=by
  rcases hl with e | e
  ·rw [e]; exact h.ps
  ·rw [e]; intro e2; injection e2 with e2; have:=h.lt; omega
 have hng:v'.ownBlock≠some g:=by
  rcases hl with e | e
  ·rw [e]; exact h.gs
  ·rw [e]; intro e2; injection e2 with e2; have:=h.gl; omega
 have hsg:(w'.setCell ⟨p,8,none⟩ v').heap[g]? = w.heap[g]?:=(Below.heap_setCell w' ⟨p,8,none⟩ v' g h.gp).trans hgb
 refine ⟨{
  row:=by have:=(h.row.kept hpb).set 8 (by simp [Ep,AA]) v'; exact this
  raw:=h.raw.kept hsg
  err:=h.err
  own:=World.ownsRow.kept hown (AF w' p 8 _) (.inr hnp)
  orig:=h.orig.kept hsg
  inn:=h.inn.kept hsg
  le:=h.le
  glob:=h.glob.kept fun k hk h9=>(Below.heap_setCell w' ⟨p,8,none⟩ v' k (by have:=h.b9; have:=h.bp; show k≠p; omega)).trans (hg.block k hk (fun e=>by have:=h.ownLe k e.symm; have:=h.b9; omega))
  b9:=h.b9
  bp:=h.bp
  gp:=h.gp
  gl:=by show g < (w'.setCell ⟨p,8,none⟩ v').heap.size; simp only [World.setCell,Array.size_modify]; have:=hg.size; have:=h.gl; omega
  gs:=hng
  ps:=hnp },?_⟩
 refine ⟨hg.os,hg.tape,hg.output,by simpa [World.setCell] using hg.size,fun k hk h1 h2=>(Below.heap_setCell w' ⟨p,8,none⟩ v' k h1).trans (hg.block k hk (fun e=>h2 e.symm)),fun k hk=>?_⟩
 rcases hl with e | e
 ·exact .inl (e ▸ hk)
 ·rw [e] at hk; injection hk with hk; exact .inr (by omega)
theorem DW.pop {q m cp:Nat} (h:DW B p g bs vr ve (.slice (some ⟨q,0,none⟩) (m+1) cp) vo vi s w) (hm:s.st.length = m+1) :
  DW B p g bs vr ve (.slice (some ⟨q,0,none⟩) m cp) vo vi { s with st:=s.st.dropLast } (w.setCell ⟨p,8,none⟩ (.slice (some ⟨q,0,none⟩) m cp))∧DStep p (.slice (some ⟨q,0,none⟩) (m+1) cp) w (.slice (some ⟨q,0,none⟩) m cp) (w.setCell ⟨p,8,none⟩ (.slice (some ⟨q,0,none⟩) m cp)):=by
 have hown:OwnB w B 5 (.slice (some ⟨q,0,none⟩) m cp) s.st.dropLast:=by
  obtain ⟨h1,h2⟩:=h.own;refine ⟨by simp [byteCells],?_⟩
  rcases h2 with ⟨e,_⟩ | ⟨q',cap,cur,e,hb,hg,hnc,hcm,hcs,ht⟩
  ·cases e
  ·injection e with e1 e2 e3
   injection e1 with e1
   injection e1 with e1
   subst e1 e3;refine .inr ⟨q,cp,cur,by simp [hm],hb,hg,by simp; omega,hcm,hcs,?_⟩;have h3:=congrArg (List.take m) ht;rw [List.take_take,hm] at h3;simp only [Nat.mul_one] at h3;rw [Nat.min_eq_left (by omega)] at h3;simp only [List.length_dropLast,hm,Nat.add_sub_cancel,Nat.mul_one];rw [h3,List.dropLast_eq_take,hm,Nat.add_sub_cancel];unfold byteCells;rw [List.map_take]
 have:=h.push (w':=w) (v':=.slice (some ⟨q,0,none⟩) m cp) ⟨rfl,rfl,rfl,Nat.le_refl _,fun _ _ _=>rfl⟩ hown (.inl rfl);exact this
theorem DW.c8 (h:DW B p g bs vr ve vst vo vi s w):w.cell? ⟨p,8,none⟩ = some vst∧w.frozen? ⟨p,8,none⟩ = false:=h.row 8 _ rfl
def Stepped (B p g:Nat) (bs:List UInt8) (vst:Value) (s:DT) (w:World) (w':World):Prop:=∃ vr ve vst' vo vi,DW B p g bs vr ve vst' vo vi s w'∧DStep p vst w vst' w'
set_option maxRecDepth 100000 in
set_option maxHeartbeats 2000000 in
theorem Ge (c:UInt8) (h:DW B p g bs vr ve vst vo vi s w) (hl:s.st.length≤100000000) :
  Calls Tryz.prog 42 #[.pointer (some ⟨p,0,none⟩),.int .u8 (c.toNat:Int)] w fun e w'=>e = .returned (.tuple #[])∧∃ vst',DW B p g bs vr ve vst' vo vi { s with st:=s.st++[c] } w'∧DStep p vst w vst' w':=by
 obtain ⟨c8,f8⟩:=h.c8;have hlp:=h.lt;have HH:=hid h;have HD1:=hid (h.below ((Below.refl _ w).alloc (Nat.le_refl _) (.cells #[.int .u8 (c.toNat:Int)] 5)));have HS1:=hid (DStep.of_below (p:=p) (vst:=vst) ((Below.refl _ w).alloc (Nat.le_refl _) (.cells #[.int .u8 (c.toNat:Int)] 5)));have HC:=hid (show (w.alloc (.cells #[.int .u8 (c.toNat:Int)] 5)).cell? ⟨w.heap.size,0,none⟩ = some (.int .u8 (c.toNat:Int)) by simp);clear h
 go_enter Tryz.func42,Tryz.ntmps42
 go_wp2_with (first
  | (at_builtin; refine Gs _ rfl _ _ 22 rfl B 5 Tryz.underlying22 Ag vst s.st rfl HD1.out.own ⟨w.heap.size,0,none⟩ 1 c rfl HC.out HD1.out.base (by omega) ?_; intro v1 w1 ha; obtain ⟨ao1,cp1,rfl⟩:=OwnB.sliceA ha.own; have HA:=hid ha; have c8':=(World.cell?_of_block (a:=⟨p,8,none⟩) (ha.grown.block p HD1.out.lt (fun e=>HD1.out.ps e.symm))).trans HD1.out.c8.1; have f8':=(World.frozen?_of_block (a:=⟨p,8,none⟩) (ha.grown.block p HD1.out.lt (fun e=>HD1.out.ps e.symm))).trans HD1.out.c8.2; clear ha)
  | fail)
 refine bodyPost_end (results_none rfl _ _ _) rfl ?_;obtain ⟨hd,hs⟩:=HD1.out.push HA.out.grown HA.out.own HA.out.lies;rw [show (s.st++[c]).length = s.st.length+1 by simp] at hd hs;exact ⟨rfl,_,hd,HS1.out.trans hs⟩
theorem PZ (w:World) (n:Nat):Below w.heap.size w (w.drewN n):=⟨rfl,rfl,rfl,Nat.le_refl _,fun _ _=>rfl⟩
theorem Qo (st:List UInt8) (c:UInt8) (h:st.getLast? = some c) (_hc:c.toNat = 123∨c.toNat = 60∨c.toNat = 91) :
  AB st = (if c.toNat = 91 then 6 else 4)∧A4 st = (if c.toNat = 91 then 93 else if c.toNat = 123 then 125 else 62):=by
 unfold AB A4;rw [h];exact ⟨rfl,rfl⟩
theorem Na {v:Value} {st:List UInt8} {c:UInt8} (h:OwnB w B 5 v st) (hl:st.getLast? = some c):∃ q m cp,v = .slice (some ⟨q,0,none⟩) (m+1) cp∧st.length = m+1∧m+1≤cp∧w.cell? ⟨q,m,none⟩ = some (.int .u8 (c.toNat:Int)):=by
 rcases h.2 with ⟨_,h0⟩ | ⟨q,cap,cur,rfl,hb,hg,hnc,hcm,hcs,ht⟩
 ·rw [List.eq_nil_of_length_eq_zero h0] at hl; cases hl
 ·have hne:st≠[]:=by intro e; rw [e] at hl; cases hl
  obtain ⟨m,hm⟩:∃ m,st.length = m+1:=⟨st.length - 1,by cases st with | nil=>exact absurd rfl hne | cons a b=>simp⟩;refine ⟨q,m,cap,by rw [hm],hm,by omega,?_⟩
  have hc:=(World.ownsRow.cells h (g:=q) rfl) m (.int .u8 (c.toNat:Int)) (by
   unfold byteCells;rw [List.getElem?_map];rw [List.getLast?_eq_getElem?,hm,Nat.add_sub_cancel] at hl;rw [hl]
   rfl)
  rwa [Addr.add_lit,Nat.zero_add] at hc
set_option maxRecDepth 100000 in
set_option maxHeartbeats 2000000 in
theorem B9 (h:DW B p g bs vr ve vst vo vi s w) (hok:StOk s.st) (hl:s.st.length≤100000000) :
  Calls Tryz.prog 44 #[.pointer (some ⟨p,0,none⟩)] w fun e w'=>e = .returned (.tuple #[.int .u8 (AB s.st:Int),.int .u8 (A4 s.st:Int)])∧Below w.heap.size w w':=by
 obtain ⟨c8,f8⟩:=h.c8
 rcases hla:s.st.getLast? with _ | c
 ·have hnil:s.st = []:=by simpa using hla
  have hown:=h.own;rw [hnil] at hown;obtain ⟨ao,cp,rfl⟩:=OwnB.sliceA hown;have HR:Hid (AB s.st = 0∧A4 s.st = 0):=hid (by rw [hnil]; exact ⟨rfl,rfl⟩);clear h hla hnil hown
  go_enter Tryz.func44,Tryz.ntmps44
  go_wp2
  go_ret2
  exact ⟨by rw [HR.out.1,HR.out.2]; rfl,Below.refl _ _⟩
 ·obtain ⟨q,m,cp,rfl,hm,hcp,hcell⟩:=Na h.own hla;have hc:=hok c (List.mem_of_getLast? hla);have HR:=hid (Qo s.st c hla hc)
  have hmI:(0:Int)≤(m:Int):=by omega
  have hmm:m≤100000000:=by omega
  have bc:=AM c;clear h hla hok hm
  rcases hc with hc | hc | hc
  all_goals
   rw [hc] at HR hcell
   first
   | (change _ = some (Value.int .u8 (123:Int)) at hcell)
   | (change _ = some (Value.int .u8 (60:Int)) at hcell)
   | (change _ = some (Value.int .u8 (91:Int)) at hcell)
   clear hc bc
   go_enter Tryz.func44,Tryz.ntmps44
   go_upto_region 3 with fail
   go_quiet (fail)
   go_wp2_with fail
   go_ret2
   exact ⟨by rw [HR.out.1,HR.out.2]; rfl,PZ _ _⟩
set_option maxRecDepth 100000 in
set_option maxHeartbeats 4000000 in
theorem FF (h:DW B p g bs vr ve vst vo vi s w) (hne:s.st≠[]) (hl:s.st.length≤100000000) :
  Calls Tryz.prog 45 #[.pointer (some ⟨p,0,none⟩)] w fun e w'=>e = .returned (.tuple #[])∧∃ vst',DW B p g bs vr ve vst' vo vi { s with st:=s.st.dropLast } w'∧DStep p vst w vst' w':=by
 obtain ⟨c,hla⟩:∃ c,s.st.getLast? = some c:=⟨_,List.getLast?_eq_some_getLast hne⟩;obtain ⟨q,m,cp,rfl,hm,hcp,hcell⟩:=Na h.own hla
 have hmm:m≤100000000:=by omega
 obtain ⟨c8,f8⟩:=h.c8;have hlp:=h.lt;have HP:=hid (h.pop hm);have HH:=hid h
 have hcpI:(m:Int)≤(cp:Int):=by omega
 clear h hla hm hcell hcp
 go_enter Tryz.func45,Tryz.ntmps45
 go_region
 refine bodyPost_end (results_none rfl _ _ _) rfl ?_;obtain ⟨hd,hs⟩:=HP.out;have hb:Below (w.setCell ⟨p,8,none⟩ (.slice (some ⟨q,0,none⟩) m cp)).heap.size (w.setCell ⟨p,8,none⟩ (.slice (some ⟨q,0,none⟩) m cp)) ((w.setCell ⟨p,8,none⟩ (.slice (some ⟨q,0,none⟩) m cp)).drew):=(Below.refl _ _).drew;exact ⟨rfl,_,hd.below hb,hs.trans (DStep.of_below hb)⟩
def TryRes (B p g:Nat) (bs:List UInt8) (vr ve vst vo:Value) (s:DT) (c:UInt8) (w:World) (e:Ending) (w':World):Prop:=∃ b vi' k',e = .returned (.bool b)∧(b,k') = (match bs.drop s.k with
   | []=>(false,s.k)
   | d::_=>if d.toNat = c.toNat then (true,goT bs s.k 1) else (false,s.k))∧DW B p g bs vr ve vst vo vi' { s with k:=k' } w'∧w.grownBy w' (some p)
set_option maxRecDepth 100000 in
set_option maxHeartbeats 4000000 in
theorem LF (c:UInt8) (h:DW B p g bs vr ve vst vo vi s w) (hm:bs.length≤100000000) (hk:s.k≤bs.length) :
  Calls Tryz.prog 50 #[.pointer (some ⟨p,0,none⟩),.int .u8 (c.toNat:Int)] w (TryRes B p g bs vr ve vst vo s c w):=by
 obtain ⟨c10,f10⟩:=h.c10;obtain ⟨ao,cp,rfl⟩:=h.inn.slice;have HV:=hid h.inn;have HH:=hid h
 rcases hd:bs.drop s.k with _ | ⟨d,r⟩
 ·rw [hd] at HV c10;have HDR:=hid hd;clear h hd
  go_enter Tryz.func50,Tryz.ntmps50
  go_wp2
  go_ret
  exact ⟨false,_,_,rfl,by rw [HDR.out],HH.out,Bx (Below.refl _ _) _⟩
 ·rw [hd] at HV c10;have HDR:=hid hd
  have hlen:s.k+1≤bs.length:=by
   have:=congrArg List.length hd;simp at this;omega
  have h0:(0:Int).toNat < (d::r).length:=by simp
  have hrl:r.length≤100000000:=by
   have:=congrArg List.length hd;simp at this;omega
  have bd:=AM d;have bc:=AM c;clear h hd
  by_cases hdc:d.toNat = c.toNat
  ·have e1:((d.toNat:Int) == (c.toNat:Int)) = true:=by simp; omega
   go_enter Tryz.func50,Tryz.ntmps50
   go_wp2_with (first
    | ((with_reducible refine A0 ?_); refine Ai _ (by rfl) _ _ 22 5 rfl Tryz.underlying22 Ag _ _ _ rfl HV.out _ 0 rfl (by omega) h0 ?_; intro ad1 hc1; simp only [List.getElem_cons_zero,Int.toNat_zero] at hc1)
    | (go_at_call 39; refine (CC _ 1 _ HH.out hlen hm).mono ?_; rintro e w2 ⟨rfl,vi',hd2,hg2⟩; have HD2:=hid hd2; have HG2:=hid hg2; clear hd2 hg2)
    | fail)
   go_ret
   exact ⟨true,vi',_,rfl,by rw [HDR.out]; exact (if_pos hdc).symm,HD2.out,HG2.out⟩
  ·have e1:((d.toNat:Int) == (c.toNat:Int)) = false:=by simp; omega
   go_enter Tryz.func50,Tryz.ntmps50
   go_wp2_with (first
    | ((with_reducible refine A0 ?_); refine Ai _ (by rfl) _ _ 22 5 rfl Tryz.underlying22 Ag _ _ _ rfl HV.out _ 0 rfl (by omega) h0 ?_; intro ad1 hc1; simp only [List.getElem_cons_zero,Int.toNat_zero] at hc1)
    | fail)
   go_ret
   exact ⟨false,_,_,rfl,by rw [HDR.out]; exact (if_neg hdc).symm,HH.out,Bx (Below.refl _ _) _⟩
end Go.Proofs.YtgdnpnipahegaaaGreatDoor
