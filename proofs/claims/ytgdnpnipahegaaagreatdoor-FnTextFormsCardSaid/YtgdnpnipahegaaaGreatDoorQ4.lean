/-
 The library's DecodeRune on bytes; where a string needs an escape.
-/
import Derived.Test.YtgdnpnipahegaaaGreatDoorDDecode
import Derived.Lib.OthersKept
import Derived.Lib.IfaceEq
import Derived.Lib.Strings
import Derived.Lib.UnsafeStr
import Derived.Lib.Hide
import Derived.Laws.MakeOwn
import Derived.Lib.BufferWrite
import Derived.Lib.AtoiErrMem
import Derived.Deep.RegionWith
import Derived.BigCall
import Derived.BigGuard
import Derived.Test.YtgdnpnipahegaaaGreatDoorUtf8
import Derived.Test.YtgdnpnipahegaaaGreatDoorQ0
import Derived.Deep.AppendLies
namespace Go.Proofs.YtgdnpnipahegaaaGreatDoor
section
open Go.ChangeShapes Go.WideShapes Go.ChangeAt Go.RowKit Go.Lib
theorem QJ (c:UInt8) (l:List UInt8) (h:c.toNat < 128):Ov (c::l) = .tuple #[.int .i32 (c.toNat:Int),.int .i64 1]:=by
 unfold Ov chr; rw [Bo,if_pos h]; try rfl
set_option maxRecDepth 100000 in
set_option maxHeartbeats 1000000 in
theorem IC (v:Value) (l:List UInt8) (g:Nat) (w:World) (hv:View w g v l) (hne:l≠[]) (hm:l.length≤100000000) (hT:Lib.Utf8Tabs 4 5 w) :
  Calls Tryz.prog 71 #[v] w fun e w'=>e = .returned (Ov l)∧Below w.heap.size w w':=by
 have HS:=hid (Jz v l g w hv hne hm hT);obtain ⟨ao,cap,rfl,hlc,hcm,hn0,off,hao,hcell⟩:=hv;obtain rfl:=hao hne;obtain ⟨c,l,rfl⟩:=List.exists_cons_of_ne_nil hne;have c0:w.cell? ⟨g,off,none⟩ = some (.int .u8 (c.toNat:Int)):=hcell 0 (by simp);have bc:=AM c
 have hz0:(0:Int) < ((c::l).length:Int):=by simp <;> omega
 clear hcell hao hn0 hne hT
 by_cases h128:c.toNat < 128
 ·have HF:=hid (QJ c l h128)
  have hlt:(c.toNat:Int) < 128:=by omega
  generalize (c::l).length = n at *
  go_enter Tryz.func71,Tryz.ntmps71
  go_wp2_with fail
  go_loop [8] (fun i=>i = .int .i64 0) (fun _=>0)
  case atStart=>rfl
  case round=>
   subst hrel
   go_wp2_with fail
   go_ret2
   exact ⟨by rw [HF.out]; try rfl,Below.refl _ _⟩
 ·have hlt:¬ (c.toNat:Int) < 128:=by omega
  unfold Ov at HS ⊢;generalize (chr (c::l)).1 = r1 at *;generalize (chr (c::l)).2 = r2 at *;generalize (c::l).length = n at *;clear h128
  go_enter Tryz.func71,Tryz.ntmps71
  go_wp2_with fail
  go_loop [8] (fun i=>i = .int .i64 0) (fun _=>0)
  case atStart=>rfl
  case round=>
   subst hrel
   go_wp2_with (first | (go_at_call 81; refine (Calls.mono HS.out ?_); rintro e w1 ⟨rfl,hb1⟩) | fail)
   go_ret2
   exact ⟨rfl,hb1⟩
theorem chr_pos {l:List UInt8} (h:l≠[]):1≤(chr l).2∧(chr l).2≤l.length:=by
 have hl:=List.length_pos_iff.2 h;unfold chr
 rcases hu:BI l with _ | ⟨c,n⟩
 ·simp only; omega
 ·have:=Dg hu; simp only; omega
end
section
open Go.ChangeShapes Go.WideShapes Go.ChangeAt Go.RowKit Go.Lib
theorem Ag:(Tryz.prog.info? 5).map (fun i=>(i.zero,i.size,i.bytes)) = some (some (.int .u8 0),1,1):=by kernel_rfl
def Ej (n:Nat):Nat:=if n / 32 % 2 = 1 then n else n+32
theorem low_all:((List.range 256).all fun n=>decide (bits .or .u8 (n:Int) 32 = (Ej n:Int))) = true:=by kernel_rfl
theorem b_or32 (c:UInt8):bits .or .u8 (c.toNat:Int) 32 = (Ej c.toNat:Int):=by
 have h:=List.all_eq_true.1 low_all c.toNat (List.mem_range.2 (by have:=AM c; omega));exact of_decide_eq_true h
def Fe (n:Nat):Nat:=if 48≤n∧n≤57 then n - 48 else if 97≤Ej n∧Ej n≤122 then min 16 (Ej n - 87) else 16
set_option maxRecDepth 100000 in
set_option maxHeartbeats 1000000 in
theorem Sa (c:UInt8) (w:World):Calls Tryz.prog 90 #[.int .u8 (c.toNat:Int)] w fun e w'=>e = .returned (.int .u8 (Ej c.toNat:Int))∧w = w':=by
 have HB:=hid (b_or32 c)
 go_enter Tryz.func90,Tryz.ntmps90
 go_wp2
 go_ret
 exact ⟨by first | rfl | (rw [HB.out]; try rfl),rfl⟩
set_option maxRecDepth 100000 in
set_option maxHeartbeats 2000000 in
theorem Ny (s:ByteArray) (w:World) (hlim:s.size≤281474976710656) :
  Calls Tryz.prog 92 #[.string s] w fun e w'=>e = .returned (.string s)∧Below w.heap.size w w':=by
 by_cases h0:s.size = 0
 ·have hs:s = ⟨#[]⟩:=by
   apply ByteArray.ext;exact Array.eq_empty_of_size_eq_zero h0
  subst hs
  go_enter Tryz.func92,Tryz.ntmps92
  go_wp2
  go_ret
  exact ⟨rfl,Below.refl _ _⟩
 ·have hi5:∃ i0,Tryz.prog.info? 5 = some i0∧i0.zero = some (.int .u8 0)∧i0.size = 1∧i0.bytes = 1:=by
   have h:=Ag
   cases hq:Tryz.prog.info? 5 with
   | none=>rw [hq] at h; simp at h
   | some i=>rw [hq] at h; simp only [Option.map_some,Option.some.injEq,Prod.mk.injEq] at h; exact ⟨i,rfl,h⟩
  obtain ⟨i0,hi,hz0,hz1,hz2⟩:=hi5
  have hinfo:(Tryz.prog.info? 5).map (·.size) = some 1:=by rw [hi]; simp [hz1]
  have hco:Tryz.prog.cellsOf 5 = 1:=by simp [Program.cellsOf,hi,hz1]
  obtain ⟨M,hM⟩:∃ M,M = madeCells (Value.int .u8 0).cells (((s.size:Nat):Int).toNat * i0.size):=⟨_,rfl⟩
  have hMs:M.size = s.size:=by rw [hM,size_madeCells,hz1]; simp
  have hmk:∀ W:World,(Instr.makeSlice 22 (.int .i64 (s.size:Int)) (.int .i64 (s.size:Int))).run Tryz.prog W = .ok (.slice (some ⟨W.heap.size,0,none⟩) s.size s.size) (W.alloc (.cells M 5)):=fun W=>by
   have h:=run_make (P:=Tryz.prog) W 22 5 i0 (.int .u8 0) Tryz.underlying22 hi hz0 .i64 .i64 (s.size:Int) (s.size:Int) (by omega) (by omega) (by rw [hz2]; omega) (by omega);rw [←hM] at h
   simpa using h
  clear hM;have hcp:=Lib.run_copy_row_string (P:=Tryz.prog) (w.alloc (.cells M 5)) 22 9 3 5 w.heap.size 0 s.size s.size s M 5 Tryz.underlying22 hinfo (heap_alloc_new w _) (Nat.le_refl _) (by omega);obtain ⟨Y,hY⟩:∃ Y,Y = (M.toList.take 0++Lib.byteCells s.data.toList++M.toList.drop (0+s.size)).toArray:=⟨_,rfl⟩;rw [←hY] at hcp
  have hYl:Y.toList = Lib.byteCells s.data.toList:=by
   rw [hY,List.toList_toArray,List.take_zero,List.nil_append,List.drop_of_length_le (by rw [Array.length_toList]; omega),List.append_nil]
  have hYs:Y.size = s.size:=by rw [←Array.length_toList,hYl,Lib.byteCells_length,←Lib.size_eq]
  have hgY:((w.alloc (.cells M 5)).setRow w.heap.size Y).heap[w.heap.size]? = some (.cells Y 5 (0,0)):=setRow_heap _ _ M _ 5 (0,0) (heap_alloc_new w _);have hne:s.data.toList≠[]:=fun e=>h0 (by rw [Lib.size_eq,e]; try rfl);have hUS:=Lib.run_unsafeString_row (P:=Tryz.prog) ((w.alloc (.cells M 5)).setRow w.heap.size Y) 137 3 9 5 Tryz.underlying137 hco w.heap.size Y.size (by unfold World.shape?; rw [hgY]) s.data.toList hne (by rw [←Lib.size_eq]; omega) (by rw [←Lib.size_eq]; omega)
   (fun j x hx=>Lib.cells_of_row hgY Y.size j _ (by rw [List.take_of_length_le (by rw [Array.length_toList]; exact Nat.le_refl _),hYl]; simp [Lib.byteCells,hx]))
  rw [←Lib.size_eq] at hUS;clear hY
  go_enter Tryz.func92,Tryz.ntmps92
  go_wp2
  go_ret
  have hb1:Below w.heap.size w (w.alloc (.cells M 5)):=(Below.refl _ w).alloc (Nat.le_refl _) _;have hb2:Below w.heap.size (w.alloc (.cells M 5)) ((w.alloc (.cells M 5)).setRow w.heap.size Y):=⟨rfl,rfl,rfl,by simp,fun k hk=>setRow_other _ _ _ _ (by omega)⟩;exact ⟨rfl,Lib.below_freeze (hb1.trans hb2) (p:=⟨w.heap.size,0,none⟩) (Nat.le_refl _) _⟩
def ErrVar (G:Nat) (w:World):Prop:=∃ te pe,w.cell? ⟨G,0,none⟩ = some (.iface te pe)
theorem ErrVar.below {G:Nat} {w w':World} (h:ErrVar G w) (b:Below w.heap.size w w'):ErrVar G w':=by
 obtain ⟨te,pe,hc⟩:=h;exact ⟨te,pe,(b.cell (show (⟨G,0,none⟩:Addr).block < w.heap.size from Lib.lt_of_cell hc)).trans hc⟩
set_option maxRecDepth 100000 in
set_option maxHeartbeats 2000000 in
theorem K8 (fn s:ByteArray) (w:World) (hlim:s.size≤281474976710656) (hv:ErrVar 2 w) :
  Calls Tryz.prog 77 #[.string fn,.string s] w fun e w'=>∃ N,e = .returned (.pointer (some ⟨N,0,none⟩))∧Below w.heap.size w w':=by
 obtain ⟨te,pe,hv⟩:=hv;have hG:2 < w.heap.size:=Lib.lt_of_cell hv;have hvd:w.drew.cell? ⟨2,0,none⟩ = some (.iface te pe):=hv
 go_enter Tryz.func77,Tryz.ntmps77
 go_wp2
 go_region_with (
   go_at_call 92
   refine (Ny s _ hlim).mono ?_;rintro e w2 ⟨rfl,hbel⟩
   have hv2:w2.cell? ⟨2,0,none⟩ = some (.iface te pe):=(hbel.cell (show (⟨2,0,none⟩:Addr).block < w.drew.heap.size from hG)).trans hvd)
 all_goals (
  go_wp2
  go_ret
  have hs2:w.heap.size≤w2.heap.size:=hbel.size
  exact ⟨_,rfl,((Below.drew (Below.refl _ w)).trans hbel).alloc hs2 _⟩)
set_option maxRecDepth 100000 in
set_option maxHeartbeats 2000000 in
theorem Ij (fn s:ByteArray) (base bs:Int) (w:World) (hlim:s.size≤281474976710656) (hv:ErrVar 2 w) :
  Calls Tryz.prog 70 #[.string fn,.string s,.int .i64 base,.int .i64 bs,.iface 101 (.int .i64 2)] w fun e w'=>∃ N,e = .returned (.iface 106 (.pointer (some ⟨N,0,none⟩)))∧Below w.heap.size w w':=by
 have heq:∀ W,(binOp .eql 52 (.iface 101 (.int .i64 2)) (.iface 101 (.int .i64 2))).run Tryz.prog W = .ok (.bool true) W:=fun W=>Lib.run_eql_iface_int W 2 2 Tryz.underlying52 (by kernel_rfl) Tryz.underlying101
 go_enter Tryz.func70,Tryz.ntmps70
 go_wp2_with (go_at_call 77; refine (K8 fn s _ hlim hv).mono ?_; rintro e w2 ⟨N,rfl,hb⟩)
 go_ret
 exact ⟨N,rfl,hb⟩
end
section
open Go.ChangeShapes Go.WideShapes Go.ChangeAt Go.RowKit Go.Lib
section
variable {P:Program} {ops:Array Oper} {rest:List Oper} {o:Oper} {a:Act} {Q:Exit→Act→World→Prop}
theorem DJ (w:World) (hw:Region.wanted o (yielded ops a.tmps) = true) (x:Operand) (src dst e:TypeId) (ho:o.op = .convert src dst x)
  (hs:P.underlying src = some .string) (hd:P.underlying dst = some (.slice e)) (he:P.underlying e = some (.int .u8))
  (l:List UInt8) (hx:a.eval x = .string ⟨l.toArray⟩) (hm:l.length≤1000000000)
  (h:∀ v' w',View w' w.heap.size v' l→Below w.heap.size w w'→wpList P ops Q rest (a.put o.dst v') w'):wpList P ops Q (o::rest) a w:=by
 have hsz:(⟨l.toArray⟩:ByteArray).size = l.length:=Ed l;have hcm:grownCap w (⟨l.toArray⟩:ByteArray).size 0 e≤maxLen:=grownCap_le_maxLen w _ 0 e (by rw [hsz]; unfold maxLen; omega);have hcg:=grownCap_ge w (⟨l.toArray⟩:ByteArray).size 0 e;refine CA hw fun K hK=>?_;have hrun:=run_bytes_of_string (P:=P) w src dst e ⟨l.toArray⟩ hs hd he;generalize grownCap w (⟨l.toArray⟩:ByteArray).size 0 e = cap at *;unfold Oper.wp;simp [execOp,ho,hx,hrun,Result.andThen];refine hK _ _ (h _ _ ?_ ?_)
 ·rw [hsz] at hcg ⊢;refine ⟨_,cap,rfl,hcg,hcm,(fun h=>by cases h),0,fun _=>rfl,fun j hj=>?_⟩;rw [cell_of_row _ w.heap.size (0+j) _ e _ (heap_alloc_new w.drew _)];unfold bytesRow;rw [Nat.zero_add,Array.getElem?_append_left (by simpa using hj)];simp [hj]
 ·exact (Below.refl _ _).drew.alloc (by simp) _
end
def CI:Nat→List UInt8→Option Nat
 | acc,[]=>some acc
 | acc,c::l=>if Fe c.toNat < 16 then CI (acc * 16+Fe c.toNat) l else none
def GV (l:List UInt8):Value:=match CI 0 l with
 | some n=>.tuple #[.int .u64 (n:Int),.nilIface]
 | none=>.tuple #[.int .u64 0,.iface 101 (.int .i64 2)]
theorem Ew {l:List UInt8} {n:Nat} (h:CI 0 l = some n):GV l = .tuple #[.int .u64 (n:Int),.nilIface]:=by unfold GV; rw [h]
theorem Dj {l:List UInt8} (h:CI 0 l = none):GV l = .tuple #[.int .u64 0,.iface 101 (.int .i64 2)]:=by unfold GV; rw [h]
theorem KB {l:List UInt8} {k acc:Nat} (hk:k < l.length):CI acc (l.drop k) = if Fe l[k].toNat < 16 then CI (acc * 16+Fe l[k].toNat) (l.drop (k+1)) else none:=by
 rw [List.drop_eq_getElem_cons hk,CI]
theorem Oi:∀ (l:List UInt8) (acc n:Nat),CI acc l = some n→n+1≤(acc+1) * 16 ^ l.length:=by
 intro l
 induction l with
 | nil=>intro acc n h; simp [CI] at h; simp; omega
 | cons c l ih=>
  intro acc n h;rw [CI] at h
  by_cases hc:Fe c.toNat < 16
  ·rw [if_pos hc] at h;have:=ih _ _ h;rw [List.length_cons,Nat.pow_succ,Nat.mul_comm (16 ^ l.length) 16,←Nat.mul_assoc];exact Nat.le_trans this (Nat.mul_le_mul_right _ (by omega))
  ·rw [if_neg hc] at h; cases h
end
section
open Go.ChangeShapes Go.WideShapes Go.ChangeAt Go.RowKit
end
section
open Go.ChangeShapes Go.WideShapes Go.ChangeAt Go.RowKit
def FK (c:Nat):List UInt8:=
 if c < 128 then [UInt8.ofNat c] else if c < 2048 then [UInt8.ofNat (192+c / 64),UInt8.ofNat (128+c % 64)]
 else if c < 65536 then [UInt8.ofNat (224+c / 4096),UInt8.ofNat (128+c / 64 % 64),UInt8.ofNat (128+c % 64)]
 else [UInt8.ofNat (240+c / 262144),UInt8.ofNat (128+c / 4096 % 64),UInt8.ofNat (128+c / 64 % 64),UInt8.ofNat (128+c % 64)]
end
section
def FC (v:Nat):Bool:=decide (55296≤v) && decide (v < 57344)
def Dd (v u:Nat):Nat:=if 55296≤v∧v < 56320∧56320≤u∧u < 57344 then (v - 55296) * 1024+(u - 56320)+65536 else 65533
def AG (c:UInt8):Bool:=decide (48≤c.toNat) && decide (c.toNat≤55)
def AQ (c:UInt8):Bool:=decide (48≤c.toNat) && decide (c.toNat≤57) || (decide (97≤c.toNat) && decide (c.toNat≤102) || decide (65≤c.toNat) && decide (c.toNat≤70))
def As (p:UInt8→Bool):List UInt8→Nat
 | []=>0
 | c::l=>if p c then As p l+1 else 0
theorem BE (p:UInt8→Bool) (c:UInt8) (l:List UInt8):As p (c::l) = if p c then As p l+1 else 0:=rfl
theorem Bp (p:UInt8→Bool):∀ l,As p l≤l.length
 | []=>Nat.le_refl _
 | c::l=>by rw [BE]; split <;> simp; exact Bp p l
theorem Im (p:UInt8→Bool):∀ (l:List UInt8),∀ c ∈ l.take (As p l),p c = true
 | [],c,h=>by simp at h
 | d::l,c,h=>by
  rw [BE] at h
  split at h
  ·rename_i hd
   rw [List.take_succ_cons,List.mem_cons] at h
   rcases h with rfl | h
   ·exact hd
   ·exact Im p l c h
  ·simp at h
def GS:Nat→List UInt8→Nat
 | acc,[]=>acc
 | acc,c::l=>GS (acc * 8+(c.toNat - 48)) l
def EL (c:Nat):Nat:=if c = 34∨c = 39∨c = 92∨c = 63 then c else if c = 97 then 7 else if c = 98 then 8 else if c = 110 then 10 else if c = 114 then 13 else if c = 116 then 9 else if c = 118 then 11 else if c = 102 then 12 else 0
def Fl (d:Nat) (l:List UInt8):Option (List UInt8 × Nat):=
 if l.length < d+2 then none else match CI 0 ((l.drop 2).take d) with
 | none=>none
 | some v=>if 1114111 < v then none else if FC v = false then some (FK v,d+2)
  else if l.length < d+8 then none
  else match CI 0 ((l.drop (d+4)).take 4) with
  | none=>none
  | some u=>if (l.getD (d+2) 0).toNat = 92∧(l.getD (d+3) 0).toNat = 117∧Dd v u≠65533 then some (FK (Dd v u),d+8) else none
def MK (l:List UInt8):Option (List UInt8 × Nat):=if 255 < GS 0 (l.take (min 3 (As AG l))) then none else some ([UInt8.ofNat (GS 0 (l.take (min 3 (As AG l))))],1+min 3 (As AG l))
def Iy (l:List UInt8):Option (List UInt8 × Nat):=if As AQ l = 0 then none else match CI 0 (l.take (min 2 (As AQ l))) with
 | none=>none
 | some v=>some ([UInt8.ofNat v],2+min 2 (As AQ l))
def HQ:List UInt8→Option (List UInt8 × Nat)
 | b::c::l=>if EL c.toNat≠0 then some ([UInt8.ofNat (EL c.toNat)],2) else if AG c then MK (c::l) else if c.toNat = 120 then Iy l
  else if c.toNat = 117 then Fl 4 (b::c::l) else if c.toNat = 85 then Fl 8 (b::c::l) else none
 | _=>none
theorem Cd (b c:UInt8) (l:List UInt8):HQ (b::c::l) = if EL c.toNat≠0 then some ([UInt8.ofNat (EL c.toNat)],2) else if AG c then MK (c::l) else if c.toNat = 120 then Iy l
  else if c.toNat = 117 then Fl 4 (b::c::l) else if c.toNat = 85 then Fl 8 (b::c::l) else none:=rfl
theorem MA (v:Nat):(FK v).length≤4:=by
 unfold FK
 split
 ·exact (by decide:1≤4)
 ·split
  ·exact (by decide:2≤4)
  ·split
   ·exact (by decide:3≤4)
   ·exact (by decide:4≤4)
theorem MQ {d:Nat} {l b:List UInt8} {n:Nat} (h:Fl d l = some (b,n)):(2≤n∧n≤l.length)∧b.length≤4:=by
 unfold Fl at h
 by_cases h1:l.length < d+2
 ·rw [if_pos h1] at h; cases h
 ·rw [if_neg h1] at h
  rcases hv:CI 0 ((l.drop 2).take d) with _ | v
  ·rw [hv] at h; cases h
  ·rw [hv] at h;simp only at h
   by_cases h0:1114111 < v
   ·rw [if_pos h0] at h; cases h
   ·rw [if_neg h0] at h
    by_cases h2:FC v = false
    ·rw [if_pos h2] at h; cases h; exact ⟨by omega,MA _⟩
    ·rw [if_neg h2] at h
     by_cases h3:l.length < d+8
     ·rw [if_pos h3] at h; cases h
     ·rw [if_neg h3] at h
      rcases hu:CI 0 ((l.drop (d+4)).take 4) with _ | u
      ·rw [hu] at h; cases h
      ·rw [hu] at h;simp only at h
       split at h
       ·cases h; exact ⟨by omega,MA _⟩
       ·cases h
theorem R1 {l b:List UInt8} {n:Nat} (h:MK l = some (b,n)):(1≤n∧n≤1+l.length)∧b.length = 1:=by
 unfold MK at h;have:=Bp AG l
 split at h
 ·cases h
 ·cases h; exact ⟨by omega,rfl⟩
theorem QD {l b:List UInt8} {n:Nat} (h:Iy l = some (b,n)):(2≤n∧n≤2+l.length)∧b.length = 1:=by
 unfold Iy at h;have:=Bp AQ l
 split at h
 ·cases h
 ·split at h
  ·cases h
  ·cases h; exact ⟨by omega,rfl⟩
theorem F1 {l b:List UInt8} {n:Nat} (h:HQ l = some (b,n)):(1≤n∧n≤l.length)∧b.length≤4:=by
 match l,h with
 | a::c::l,h=>
  rw [Cd] at h
  split at h
  ·cases h; exact ⟨by simp,(by decide:1≤4)⟩
  ·split at h
   ·have:=R1 h; simp at this ⊢; omega
   ·split at h
    ·have:=QD h; simp at this ⊢; omega
    ·split at h
     ·have:=MQ h; omega
     ·split at h
      ·have:=MQ h; omega
      ·cases h
def F8 (q:Nat):Nat→List UInt8→List UInt8→Option (List UInt8 × Nat)
 | 0,_,_=>none
 | f+1,l,out=>match BI l with
  | none=>none
  | some (c,n)=>if c = 0∨c = 10 then none else if c = q then some (out,l.length - 1)
   else if c = 92 then (match HQ l with
    | none=>none
    | some (b,m)=>F8 q f (l.drop m) (out++b))
   else F8 q f (l.drop n) (out++l.take n)
def A7 (q:Nat) (l out:List UInt8):Option (List UInt8 × Nat):=F8 q l.length l out
theorem Ho (q:Nat):∀ (f g:Nat) (l out:List UInt8),l.length≤f→l.length≤g→F8 q f l out = F8 q g l out
 | 0,0,_,_,_,_=>rfl
 | 0,g+1,l,out,h,_=>by
  have:l = []:=List.eq_nil_of_length_eq_zero (by omega);subst this; rfl
 | f+1,0,l,out,_,h=>by
  have:l = []:=List.eq_nil_of_length_eq_zero (by omega);subst this; rfl
 | f+1,g+1,l,out,hf,hg=>by
  unfold F8
  rcases hu:BI l with _ | ⟨c,n⟩
  ·rfl
  ·have hn:=Dg hu;simp only
   split
   ·rfl
   ·split
    ·rfl
    ·split
     ·rcases he:HQ l with _ | ⟨b,m⟩
      ·rfl
      ·have hm:=F1 he;exact Ho q f g _ _ (by simp; omega) (by simp; omega)
     ·exact Ho q f g _ _ (by simp; omega) (by simp; omega)
theorem Kk {q:Nat} {l out:List UInt8} (h:BI l = none):A7 q l out = none:=by
 unfold A7
 cases l with
 | nil=>rfl
 | cons c l=>rw [List.length_cons,F8,h]
theorem Dw {q:Nat} {l out:List UInt8} {c n:Nat} (h:BI l = some (c,n)):A7 q l out = if c = 0∨c = 10 then none else if c = q then some (out,l.length - 1)
   else if c = 92 then (match HQ l with
    | none=>none
    | some (b,m)=>A7 q (l.drop m) (out++b))
   else A7 q (l.drop n) (out++l.take n):=by
 have hn:=Dg h;obtain ⟨f,hf⟩:∃ f,l.length = f+1:=⟨l.length - 1,by omega⟩
 conv=>lhs; unfold A7
 rw [hf,F8,h];simp only;rw [hf]
 split
 ·rfl
 ·split
  ·rfl
  ·split
   ·rcases he:HQ l with _ | ⟨b,m⟩
    ·rfl
    ·have hm:=F1 he;exact Ho q _ _ _ _ (by simp; omega) (Nat.le_refl _)
   ·exact Ho q _ _ _ _ (by simp; omega) (Nat.le_refl _)
theorem LM (q:Nat):∀ (f:Nat) (l out s:List UInt8) (m:Nat),F8 q f l out = some (s,m)→m+1≤l.length∧s.length≤out.length+4 * l.length
 | 0,_,_,_,_,h=>by cases h
 | f+1,l,out,s,m,h=>by
  unfold F8 at h
  rcases hu:BI l with _ | ⟨c,n⟩
  ·rw [hu] at h; cases h
  ·rw [hu] at h;have hn:=Dg hu;simp only at h
   split at h
   ·cases h
   ·split at h
    ·cases h; omega
    ·split at h
     ·rcases he:HQ l with _ | ⟨b,k⟩
      ·rw [he] at h; cases h
      ·rw [he] at h;have hk:=F1 he;have:=LM q f _ _ _ _ h
       have hb:b.length≤4 * k:=by omega
       simp only [List.length_append,List.length_drop] at this;omega
     ·have:=LM q f _ _ _ _ h;simp only [List.length_append,List.length_drop,List.length_take] at this;omega
theorem II {q:Nat} {l out s:List UInt8} {m:Nat} (h:A7 q l out = some (s,m)):m+1≤l.length∧s.length≤out.length+4 * l.length:=LM q _ _ _ _ _ h
def Gf (c:UInt8):Bool:=!(decide (c.toNat < 32) || (c.toNat == 34 || (c.toNat == 39 || (c.toNat == 92 || decide (127≤c.toNat)))))
def ER (l:List UInt8):Nat:=As Gf l
theorem Kj {q:Nat} (hq:q = 34∨q = 39):∀ (l out:List UInt8),A7 q l out = A7 q (l.drop (ER l)) (out++l.take (ER l))
 | [],out=>by simp
 | c::l,out=>by
  unfold ER;rw [BE]
  cases hc:Gf c with
  | false=>simp
  | true=>
   rw [if_pos rfl];unfold Gf at hc;simp at hc
   have hu:BI (c::l) = some (c.toNat,1):=by rw [Bo,if_pos (by omega)]
   rw [Dw hu,if_neg (by omega),if_neg (by omega),if_neg (by omega)];rw [List.drop_succ_cons,List.take_succ_cons,List.drop_succ_cons,List.drop_zero,List.take_succ_cons,List.take_zero];rw [Kj hq l (out++[c])];unfold ER;simp
end
section
def AZ (c:UInt8):Bool:=decide (48≤c.toNat) && decide (c.toNat≤57)
def Uq:List UInt8→Nat
 | []=>0
 | c::l=>if AZ c then Uq l+1 else 0
def notDel (c:UInt8):Bool:=
 c.toNat == 45 || c.toNat == 43 || c.toNat == 46 || c.toNat == 95 || (decide (97≤c.toNat) && decide (c.toNat≤122)) || (decide (65≤c.toNat) && decide (c.toNat≤90)) || AZ c
def intN:List UInt8→Option Nat
 | []=>none
 | c::l=>if c.toNat = 48 then some 1 else if 49≤c.toNat∧c.toNat≤57 then some (1+Uq l) else none
def fracN:List UInt8→Nat
 | a::d::l=>if a.toNat = 46∧AZ d = true then 2+Uq l else 0
 | _=>0
def expN:List UInt8→Option Nat
 | a::d::l=>if a.toNat = 101∨a.toNat = 69 then (if d.toNat = 43∨d.toNat = 45 then (if l = [] then none else some (2+Uq l)) else some (1+Uq (d::l))) else some 0
 | _=>some 0
def Tz:List UInt8→Nat
 | c::_=>if c.toNat = 45 then 1 else 0
 | []=>0
def numJ (l:List UInt8):Option Nat:=match intN (l.drop (Tz l)) with
 | none=>none
 | some i=>match expN (l.drop (Tz l+i+fracN (l.drop (Tz l+i)))) with
  | none=>none
  | some e=>let n:=Tz l+i+fracN (l.drop (Tz l+i))+e
   match l.drop n with
   | c::_=>if notDel c then none else some n
   | []=>some n
end
section
def Ch (c:UInt8):Bool:=c.toNat == 32 || c.toNat == 10 || c.toNat == 13 || c.toNat == 9
def skT:Bool→List UInt8→Nat
 | _,[]=>0
 | true,c::l=>skT (c.toNat != 10) l+1
 | false,c::l=>if Ch c then skT false l+1 else if c.toNat = 35 then skT true l+1 else 0
theorem Je:∀ (b:Bool) (l:List UInt8),skT b l≤l.length
 | _,[]=>by simp [skT]
 | true,c::l=>by unfold skT; have:=Je (c.toNat != 10) l; simp; omega
 | false,c::l=>by
  unfold skT
  split
  ·have:=Je false l; simp; omega
  ·split
   ·have:=Je true l; simp; omega
   ·exact Nat.zero_le _
theorem CL (c:UInt8) (l:List UInt8):skT false (c::l) = if Ch c then skT false l+1 else if c.toNat = 35 then skT true l+1 else 0:=by rw [skT]
theorem G3 (c:UInt8) (l:List UInt8):skT true (c::l) = skT (c.toNat != 10) l+1:=by rw [skT]
theorem IJ (b:Bool):skT b [] = 0:=by cases b <;> rfl
def Gj (c:UInt8):Bool:=c.toNat == 95 || decide (97≤c.toNat) && decide (c.toNat≤122) || decide (65≤c.toNat) && decide (c.toNat≤90)
def idC (c:UInt8):Bool:=Gj c || AZ c
def DI (c:UInt8):Bool:=!(c.toNat == 45 || (c.toNat == 43 || (c.toNat == 46 || (c.toNat == 95 || (decide (97≤c.toNat) && decide (c.toNat≤122) || (decide (65≤c.toNat) && decide (c.toNat≤90) || decide (48≤c.toNat) && decide (c.toNat≤57)))))))
def Eo:List UInt8→Bool
 | []=>true
 | c::_=>DI c
def Dm:List UInt8→Nat
 | []=>0
 | c::r=>if Gj c && Eo (r.drop (As idC r)) then 1+As idC r else 0
def Bb (neg:Bool):List UInt8→Nat
 | []=>0
 | c::r=>if neg && c.toNat == 45 then (if Dm r = 0 then 0 else 1+Dm r) else Dm (c::r)
theorem CB (c:UInt8) (r:List UInt8):Dm (c::r) = if Gj c && Eo (r.drop (As idC r)) then 1+As idC r else 0:=rfl
theorem CV (neg:Bool) (c:UInt8) (r:List UInt8):Bb neg (c::r) = if neg && c.toNat == 45 then (if Dm r = 0 then 0 else 1+Dm r) else Dm (c::r):=rfl
theorem Nn (l:List UInt8):Dm l≤l.length:=by
 cases l with
 | nil=>exact Nat.le_refl _
 | cons c r=>
  have:=Bp idC r;rw [CB]
  split <;> simp
  omega
theorem IU (neg:Bool) (l:List UInt8):Bb neg l≤l.length:=by
 cases l with
 | nil=>exact Nat.le_refl _
 | cons c r=>
  have:=Nn r;have:=Nn (c::r);rw [CV]
  split
  ·split <;> simp
   omega
  ·omega
structure NT where
 kind:Nat
 neg:Bool
 size:Nat
 sep:Nat
def Ev (kind:Nat):List UInt8→Option (Nat × Nat)
 | []=>some (kind,0)
 | c::r=>if c.toNat = 46 then (if r = []∧kind = 4 then none else some (4,1+As AZ r)) else some (kind,0)
def isE (c:UInt8):Bool:=c.toNat == 101 || c.toNat == 69
def isF (c:UInt8):Bool:=c.toNat == 102 || c.toNat == 70
def Ie (c:UInt8):Bool:=c.toNat == 43 || c.toNat == 45
def He (kind:Nat):List UInt8→Option (Nat × Nat)
 | c::d::r=>if isE c then (if Ie d then (if r = [] then none else some (4,2+As AZ r)) else some (4,1+As AZ (d::r))) else some (kind,0)
 | _=>some (kind,0)
def Fq (kind:Nat):List UInt8→Nat × Nat
 | []=>(kind,0)
 | c::_=>if isF c then (4,1) else (kind,0)
theorem DS (kind:Nat) (c:UInt8) (r:List UInt8):Ev kind (c::r) = if c.toNat = 46 then (if r = []∧kind = 4 then none else some (4,1+As AZ r)) else some (kind,0):=rfl
theorem Fs (kind:Nat) (c d:UInt8) (r:List UInt8):He kind (c::d::r) = if isE c then (if Ie d then (if r = [] then none else some (4,2+As AZ r)) else some (4,1+As AZ (d::r))) else some (kind,0):=rfl
theorem FV (kind:Nat) (c:UInt8) (r:List UInt8):Fq kind (c::r) = if isF c then (4,1) else (kind,0):=rfl
def BX (kind n:Nat) (s:List UInt8):Option (Nat × Nat):=match Ev kind s with
 | none=>none
 | some (k1,n1)=>match He k1 (s.drop n1) with
  | none=>none
  | some (k2,n2)=>if Eo (s.drop (n1+n2+(Fq k2 (s.drop (n1+n2))).2)) then some ((Fq k2 (s.drop (n1+n2))).1,n+n1+n2+(Fq k2 (s.drop (n1+n2))).2) else none
def Iw (r:List UInt8):Option (Nat × Nat):=if As AQ r = 0 then none else if Eo (r.drop (As AQ r)) then some (1,2+As AQ r) else none
def Jo (r:List UInt8):Option (Nat × Nat):=if Eo (r.drop (As AG r)) then some (2,2+As AG r) else none
def Cs:List UInt8→Option (Nat × Nat)
 | []=>none
 | c::r=>if c.toNat = 48 then (match r with
   | []=>BX 0 1 []
   | d::r2=>if d.toNat = 120∨d.toNat = 88 then Iw r2 else if AG d then Jo r2 else BX 0 1 (d::r2))
  else if 49≤c.toNat∧c.toNat≤57 then BX 0 (1+As AZ r) (r.drop (As AZ r))
  else if c.toNat = 46 then BX 4 0 (c::r) else none
theorem CP (c:UInt8) (r:List UInt8):Cs (c::r) = if c.toNat = 48 then (match r with
   | []=>BX 0 1 []
   | d::r2=>if d.toNat = 120∨d.toNat = 88 then Iw r2 else if AG d then Jo r2 else BX 0 1 (d::r2))
  else if 49≤c.toNat∧c.toNat≤57 then BX 0 (1+As AZ r) (r.drop (As AZ r))
  else if c.toNat = 46 then BX 4 0 (c::r) else none:=rfl
def EP:List UInt8→Option NT
 | []=>none
 | c::r=>if c.toNat = 45 then (match Cs (r.drop (skT false r)) with
   | none=>none
   | some (k,n)=>some ⟨k,true,1+skT false r+n,skT false r⟩)
  else match Cs (c::r) with
   | none=>none
   | some (k,n)=>some ⟨k,false,n,0⟩
theorem DC (c:UInt8) (r:List UInt8):EP (c::r) = if c.toNat = 45 then (match Cs (r.drop (skT false r)) with
   | none=>none
   | some (k,n)=>some ⟨k,true,1+skT false r+n,skT false r⟩)
  else match Cs (c::r) with
   | none=>none
   | some (k,n)=>some ⟨k,false,n,0⟩:=rfl
def Fp (x:NT) (l:List UInt8):List UInt8:=
 let z:=if x.kind = 4∧isF (l.getD (x.size - 1) 0) = true then x.size - 1 else x.size
 if x.neg = true∧0 < x.sep then l.getD 0 0::((l.take z).drop (x.sep+1)) else l.take z
def Ik:Nat→List UInt8→Nat
 | acc,[]=>acc
 | acc,c::l=>Ik (acc * 10+(c.toNat - 48)) l
def tnC (c:UInt8):Bool:=c.toNat == 45 || (c.toNat == 95 || (AZ c || (decide (97≤c.toNat) && decide (c.toNat≤122) || decide (65≤c.toNat) && decide (c.toNat≤90))))
def EN (c:UInt8):Bool:=c.toNat == 46 || (c.toNat == 126 || (c.toNat == 33 || (c.toNat == 36 || (c.toNat == 38 || (c.toNat == 40 || (c.toNat == 41 || (c.toNat == 42 || (c.toNat == 43 || (c.toNat == 44 || (c.toNat == 59 || c.toNat == 61))))))))))
def csT (l:List UInt8):List UInt8:=l.drop (skT false l)
theorem C6 (l:List UInt8):(csT l).length≤l.length:=by unfold csT; simp
def tnF:Nat→List UInt8→List UInt8→Option (List UInt8 × List UInt8)
 | 0,_,_=>none
 | _+1,[],_=>none
 | f+1,c::r,name=>if c.toNat = 93 then some (name,r) else if c.toNat = 47∨tnC c = true∨EN c = true then tnF f (csT r) (name++[c])
  else if c.toNat = 37 then (match r with
   | a::b::r2=>if AQ a && AQ b then tnF f (csT r2) (name++[c,a,b]) else none
   | _=>none)
  else none
theorem D9 (f:Nat) (c:UInt8) (r name:List UInt8):tnF (f+1) (c::r) name = if c.toNat = 93 then some (name,r) else if c.toNat = 47∨tnC c = true∨EN c = true then tnF f (csT r) (name++[c])
  else if c.toNat = 37 then (match r with
   | a::b::r2=>if AQ a && AQ b then tnF f (csT r2) (name++[c,a,b]) else none
   | _=>none)
  else none:=rfl
def DO:List UInt8→Option (List UInt8 × List UInt8)
 | []=>none
 | c::l=>match DO l with
  | some (p,t)=>some (c::p,t)
  | none=>if c.toNat = 47 then some ([],l) else none
def GR:Bool→List UInt8→Bool
 | b,[]=>b
 | b,c::l=>if c.toNat = 46 then b && GR false l else GR true l
def EY (t:List UInt8):Bool:=GR false t && t.all fun c=>!(c.toNat == 37 || c.toNat != 46 && EN c)
def D7 (name:List UInt8):Bool:=match DO name with
 | none=>EY name
 | some (p,t)=>!(match p with
  | []=>false
  | c::_=>c.toNat == 47) && EY t
structure TT where
 kind:Nat
 att:Nat
 sep:Bool
 na:Nat
 pos:Nat
 raw:List UInt8
 str:List UInt8
def TT.zero:TT:=⟨0,0,false,0,0,[],[]⟩
structure DT where
 peeked:Bool
 tok:TT
 bad:Bool
 st:List UInt8
 k:Nat
def goT (bs:List UInt8) (k n:Nat):Nat:=k+n+skT false (bs.drop (k+n))
def AD (bs:List UInt8) (k kind n att:Nat):TT × Nat:=(⟨kind,att,false,0,k,(bs.drop k).take n,[]⟩,goT bs k n)
def Fy (bs:List UInt8):TT × Nat→TT × Nat
 | (t,k)=>match bs.drop k with
  | c::_=>if c.toNat = 58 then ({ t with sep:=true },goT bs k 1) else (t,k)
  | []=>(t,k)
theorem LQ {bs:List UInt8} {t:TT} {k:Nat} (h:bs.drop k = []):Fy bs (t,k) = (t,k):=by unfold Fy; simp only; rw [h]
theorem Es {bs:List UInt8} {t:TT} {k:Nat} {c:UInt8} {r:List UInt8} (h:bs.drop k = c::r):Fy bs (t,k) = if c.toNat = 58 then ({ t with sep:=true },goT bs k 1) else (t,k):=by unfold Fy; simp only; rw [h]
def D8 (bs:List UInt8) (k:Nat):Option (TT × Nat):=match tnF (bs.length+1) (csT (bs.drop (k+1))) [] with
 | none=>none
 | some (name,r)=>if D7 name then some (⟨2,2,false,0,k,(bs.drop k).take (bs.length - r.length - k),name⟩,goT bs (bs.length - r.length) 0) else none
def Bh (bs:List UInt8) (k:Nat):Option (TT × Nat):=match bs.drop k with
 | []=>none
 | c::r=>(if c.toNat = 91 then D8 bs k else if Bb false (c::r)≠0 then some (AD bs k 2 (Bb false (c::r)) 1)
  else match EP (c::r) with
   | none=>none
   | some x=>if x.neg = false∧x.kind = 0∧Ik 0 (Fp x (c::r))≤2147483647 then some (AD bs k 2 x.size 3) else none).map (Fy bs)
def Da (bs:List UInt8):Nat→Nat→List UInt8→Option (List UInt8 × Nat)
 | 0,_,_=>none
 | f+1,k,out=>match bs.drop k with
  | []=>some (out,k)
  | c::r=>if c.toNat = 34∨c.toNat = 39 then (match A7 c.toNat r [] with
    | none=>none
    | some (s,m)=>Da bs f (goT bs k (r.length+1 - m)) (out++s))
   else some (out,k)
def Bi (bs:List UInt8) (k:Nat):Option (TT × Nat):=match bs.drop k with
 | []=>none
 | c::r=>if c.toNat = 34∨c.toNat = 39 then (match Da bs (bs.length+1) k [] with
   | none=>none
   | some (s,k')=>some (⟨3,2,false,0,k,(bs.drop k).take (k' - k),s⟩,k'))
  else if Bb true (c::r)≠0 then some (AD bs k 3 (Bb true (c::r)) 3)
  else match EP (c::r) with
   | none=>none
   | some x=>some (⟨3,1,false,x.kind+(if x.neg then 128 else 0),k,(bs.drop k).take x.size,Fp x (c::r)⟩,goT bs k x.size)
def AB (st:List UInt8):Nat:=match st.getLast? with
 | none=>0
 | some c=>if c.toNat = 91 then 6 else 4
def A4 (st:List UInt8):Nat:=match st.getLast? with
 | none=>0
 | some c=>if c.toNat = 91 then 93 else if c.toNat = 123 then 125 else 62
def De (c:Nat):Nat:=if c = 125 then 62 else 125
def Aw (st:List UInt8):Option (TT × Nat)→Option (TT × List UInt8 × Nat)
 | none=>none
 | some (t,k)=>some (t,st,k)
def B4 (bs:List UInt8) (sepOk:Bool) (st:List UInt8) (k:Nat):Option (TT × List UInt8 × Nat):=match bs.drop k with
 | []=>none
 | c::_=>if c.toNat = A4 st then Aw st.dropLast (some (AD bs k 5 1 0)) else if c.toNat = De (A4 st) then none
  else if sepOk∧c.toNat = 44 then Aw st (some (AD bs k 8 1 0)) else if sepOk∧c.toNat = 59 then Aw st (some (AD bs k 9 1 0)) else Aw st (Bh bs k)
def Cq (bs:List UInt8) (sepOk:Bool) (st:List UInt8) (k:Nat):Option (TT × List UInt8 × Nat):=match bs.drop k with
 | []=>Aw st (some (AD bs k 1 0 0))
 | c::_=>if sepOk∧c.toNat = 44 then Aw st (some (AD bs k 8 1 0)) else if sepOk∧c.toNat = 59 then Aw st (some (AD bs k 9 1 0)) else Aw st (Bh bs k)
def CH (bs:List UInt8) (st:List UInt8) (k:Nat):Option (TT × List UInt8 × Nat):=match bs.drop k with
 | []=>none
 | c::_=>if c.toNat = 93 then Aw st.dropLast (some (AD bs k 7 1 0)) else if c.toNat = 44 then Aw st (some (AD bs k 8 1 0)) else none
def BB (bs:List UInt8) (list close:Bool) (st:List UInt8) (k:Nat):Option (TT × List UInt8 × Nat):=match bs.drop k with
 | []=>none
 | c::_=>if c.toNat = 123∨c.toNat = 60 then Aw (st++[c]) (some (AD bs k 4 1 0)) else if list∧c.toNat = 91 then Aw (st++[c]) (some (AD bs k 6 1 0))
  else if close∧c.toNat = 93 then Aw st.dropLast (some (AD bs k 7 1 0)) else Aw st (Bi bs k)
def C3 (bs:List UInt8) (last:Nat) (st:List UInt8) (k0:Nat):Option (TT × List UInt8 × Nat):=
 let k:=goT bs k0 0
 if last = 1 then Aw st (some (AD bs k 1 0 0))
 else if last = 0 then Cq bs false st k
 else if last = 2 then BB bs true false st k
 else if last = 4 then B4 bs false st k
 else if last = 6 then BB bs false true st k
 else if last = 8∨last = 9 then (if AB st = 0 then Cq bs false st k else if AB st = 4 then B4 bs false st k else BB bs false false st k)
 else (if AB st = 0 then Cq bs true st k else if AB st = 4 then B4 bs true st k else CH bs st k)
def BN (bs:List UInt8) (s:DT):Option DT:=match C3 bs s.tok.kind s.st s.k with
 | none=>none
 | some (t,st,k)=>some ⟨false,t,s.bad,st,k⟩
def Db (bs:List UInt8) (s:DT):Option DT:=match BN bs s with
 | none=>none
 | some s1=>if s1.tok.kind = 8∨s1.tok.kind = 9 then BN bs s1 else some s1
def Cx (bs:List UInt8) (s:DT):Option DT:=if s.peeked then (if s.bad then none else some { s with peeked:=false }) else Db bs s
def Fo (bs:List UInt8) (s:DT):DT:=if s.peeked then s else match Db bs s with
 | some s1=>{ s1 with peeked:=true,bad:=false }
 | none=>{ s with peeked:=true,bad:=true,tok:=TT.zero }
def FE (bs:List UInt8) (ps:List Bool):Nat→DT→List TT→List TT × Bool
 | 0,_,out=>(out,false)
 | f+1,s,out=>match Cx bs (if ps.getD out.length false then Fo bs s else s) with
  | none=>(out,false)
  | some s1=>if s1.tok.kind = 1 then (out,true) else FE bs ps f s1 (out++[s1.tok])
def DT.new:DT:=⟨false,TT.zero,false,[],0⟩
def Gp (bs:List UInt8) (ps:List Bool):List TT × Bool:=FE bs ps (bs.length+1) DT.new []
end
section
open Go.ChangeShapes Go.WideShapes Go.ChangeAt Go.RowKit
def RowAt (w:World) (p:Nat) (cs:List Value):Prop:=∀ j u,cs[j]? = some u→w.cell? ⟨p,j,none⟩ = some u∧w.frozen? ⟨p,j,none⟩ = false
theorem RowAt.kept {w w':World} {p:Nat} {cs:List Value} (h:RowAt w p cs) (hb:w'.heap[p]? = w.heap[p]?):RowAt w' p cs:=fun j u hu=>by
 rw [World.cell?_of_block (w:=w) (a:=⟨p,j,none⟩) hb,World.frozen?_of_block (w:=w) (a:=⟨p,j,none⟩) hb];exact h j u hu
theorem RowAt.set {w:World} {p:Nat} {cs:List Value} (h:RowAt w p cs) (k:Nat) (hk:k < cs.length) (v:Value):RowAt (w.setCell ⟨p,k,none⟩ v) p (cs.set k v):=fun j u hu=>by
 rw [World.frozen?_setCell]
 by_cases hj:j = k
 ·subst hj;rw [List.getElem?_set_self hk] at hu
  injection hu with hu
  subst hu;obtain ⟨hc,hf⟩:=h j cs[j] (List.getElem?_eq_getElem hk);exact ⟨World.cell?_setCell_same w _ _ hc,hf⟩
 ·rw [List.getElem?_set_ne (Ne.symm hj)] at hu;obtain ⟨hc,hf⟩:=h j u hu;exact ⟨by rw [World.cell?_setCell_other w _ _ _ (by intro e; injection e with _ e; exact hj e.symm)]; exact hc,hf⟩
theorem RowAt.lt {w:World} {p:Nat} {c:Value} {cs:List Value} (h:RowAt w p (c::cs)):p < w.heap.size:=World.block_lt_of_cell? w ⟨p,0,none⟩ (h 0 c rfl).1
structure Glob (w:World):Prop where
 tabs:Lib.Utf8Tabs 4 5 w
 eof:ErrVar 0 w
 syn:ErrVar 2 w
 rng:ErrVar 3 w
theorem F3 {w w':World} {a:Addr} {v:Value} (h:w.cell? a = some v) (hb:∀ k,k < w.heap.size→k < 9→w'.heap[k]? = w.heap[k]?) (ha:a.block < 9):w'.cell? a = some v:=
 (World.cell?_of_block (hb a.block (World.block_lt_of_cell? w a h) ha)).trans h
theorem Glob.kept {w w':World} (h:Glob w) (hb:∀ k,k < w.heap.size→k < 9→w'.heap[k]? = w.heap[k]?):Glob w' where
 tabs:=⟨fun c hc=>F3 (h.tabs.1 c hc) hb (show 4 < 9 by decide),fun i hi=>⟨F3 (h.tabs.2 i hi).1 hb (show 5 < 9 by decide),F3 (h.tabs.2 i hi).2 hb (show 5 < 9 by decide)⟩⟩
 eof:=by obtain ⟨t,x,hc⟩:=h.eof; exact ⟨t,x,F3 hc hb (by decide)⟩
 syn:=by obtain ⟨t,x,hc⟩:=h.syn; exact ⟨t,x,F3 hc hb (by decide)⟩
 rng:=by obtain ⟨t,x,hc⟩:=h.rng; exact ⟨t,x,F3 hc hb (by decide)⟩
theorem Glob.below {w w':World} (h:Glob w) (hb:Below w.heap.size w w'):Glob w':=h.kept fun k hk _=>hb.block k hk
def IY (t:TT):Nat:=t.att+if t.sep then 128 else 0
def AA (vr:Value) (t:TT):List Value:=[.int .u8 (t.kind:Int),.int .u8 (IY t:Int),.int .u8 (t.na:Int),.int .i64 (t.pos:Int),vr,.string ⟨t.str.toArray⟩]
def Ep (vr ve vst vo vi:Value) (s:DT):List Value:=
 .int .u8 (if s.peeked then 1 else 0)::(AA vr s.tok++[ve,vst,vo,vi])
def Rv (v:Value) (b:Bool):Prop:=if b then ∃ t x,v = .iface t x else v = .nilIface
structure DW (B p g:Nat) (bs:List UInt8) (vr ve vst vo vi:Value) (s:DT) (w:World):Prop where
 row:RowAt w p (Ep vr ve vst vo vi s)
 raw:View w g vr s.tok.raw
 err:Rv ve s.bad
 own:OwnB w B 5 vst s.st
 orig:View w g vo bs
 inn:View w g vi (bs.drop s.k)
 le:s.k≤bs.length
 glob:Glob w
 b9:9≤B
 bp:B≤p
 gp:g≠p
 gl:g < w.heap.size
 gs:vst.ownBlock≠some g
 ps:vst.ownBlock≠some p
variable {B p g:Nat} {bs:List UInt8} {vr ve vst vo vi:Value} {s:DT} {w:World}
theorem DW.lt (h:DW B p g bs vr ve vst vo vi s w):p < w.heap.size:=h.row.lt
theorem DW.base (h:DW B p g bs vr ve vst vo vi s w):B≤w.heap.size:=by have:=h.lt; have:=h.bp; omega
theorem DW.kept {w':World} (h:DW B p g bs vr ve vst vo vi s w) (hs:w.heap.size≤w'.heap.size) (hp:w'.heap[p]? = w.heap[p]?) (hg:w'.heap[g]? = w.heap[g]?) (hst:OwnB w' B 5 vst s.st) (h9:∀ k,k < w.heap.size→k < 9→w'.heap[k]? = w.heap[k]?):DW B p g bs vr ve vst vo vi s w':=
 { h with row:=h.row.kept hp,raw:=h.raw.kept hg,own:=hst,orig:=h.orig.kept hg,inn:=h.inn.kept hg,glob:=h.glob.kept h9,gl:=by have:=h.gl; omega }
theorem DW.below {w':World} (h:DW B p g bs vr ve vst vo vi s w) (hb:Below w.heap.size w w'):DW B p g bs vr ve vst vo vi s w':=
 h.kept hb.size (hb.block p h.lt) (hb.block g h.gl) (World.ownsRow.kept h.own (row:=none) ⟨hb.os,hb.tape,hb.output,hb.size,fun k hk _=>hb.block k hk⟩ (by cases vst.ownBlock <;> simp)) (fun k hk _=>hb.block k hk)
theorem DW.belowAt {w':World} (h:DW B p g bs vr ve vst vo vi s w) (N:Nat) (hp:p < N) (hg:g < N) (hv:∀ k,vst.ownBlock = some k→k < N) (hb:Below N w w'):DW B p g bs vr ve vst vo vi s w':=
 h.kept hb.size (hb.block p hp) (hb.block g hg) (by
  refine ⟨h.own.1,?_⟩
  rcases h.own.2 with hn | ⟨q,cap,cur,rfl,h1,h2,rest⟩
  ·exact .inl hn
  ·exact .inr ⟨q,cap,cur,rfl,h1,by rw [hb.block q (hv q rfl)]; exact h2,rest⟩) (fun k _ h9=>hb.block k (by have:=h.b9; have:=h.bp; omega))
theorem DW.ownLt (h:DW B p g bs vr ve vst vo vi s w):∀ k,vst.ownBlock = some k→k < w.heap.size:=fun k hk=>(World.ownsRow.lt h.own k hk).2
theorem Aa {w0 w w':World} {p:Option Nat} (h:w0.grownBy w p) (hb:Below w0.heap.size w w'):w0.grownBy w' p:=
 ⟨hb.os.trans h.os,hb.tape.trans h.tape,hb.output.trans h.output,Nat.le_trans h.size hb.size,fun k hk hne=>(hb.block k hk).trans (h.block k hk hne)⟩
theorem EI {w0 w w':World} {p:Option Nat} (hb:Below w0.heap.size w0 w) (h:w.grownBy w' p):w0.grownBy w' p:=
 ⟨h.os.trans hb.os,h.tape.trans hb.tape,h.output.trans hb.output,Nat.le_trans hb.size h.size,fun k hk hne=>(h.block k (by have:=hb.size; omega) hne).trans (hb.block k hk)⟩
theorem DW.alloc (h:DW B p g bs vr ve vst vo vi s w) (o:Obj):DW B p g bs vr ve vst vo vi s (w.alloc o):=h.below ((Below.refl _ _).alloc (Nat.le_refl _) _)
theorem DW.drew (h:DW B p g bs vr ve vst vo vi s w):DW B p g bs vr ve vst vo vi s w.drew:=h.below (Below.refl _ _).drew
theorem DW.drewN (h:DW B p g bs vr ve vst vo vi s w) (n:Nat):DW B p g bs vr ve vst vo vi s (w.drewN n):=h.below ⟨rfl,rfl,rfl,Nat.le_refl _,fun _ _=>rfl⟩
theorem AF (w:World) (p o:Nat) (v:Value):w.grownBy (w.setCell ⟨p,o,none⟩ v) (some p):=
 ⟨rfl,rfl,rfl,by simp [World.setCell],fun k _ hne=>Below.heap_setCell w ⟨p,o,none⟩ v k (fun e=>hne (by simp [e]))⟩
theorem Cw {w w0:World} {p:Nat} (h:w0.grownBy w (some p)) (o:Nat) (v:Value):w0.grownBy (w.setCell ⟨p,o,none⟩ v) (some p):=
 ⟨h.os,h.tape,h.output,by simpa [World.setCell] using h.size,fun k hk hne=>(Below.heap_setCell w ⟨p,o,none⟩ v k (fun e=>hne (by simp [e]))).trans (h.block k hk hne)⟩
theorem Bx {w w':World} (h:Below w.heap.size w w') (p:Option Nat):w.grownBy w' p:=⟨h.os,h.tape,h.output,h.size,fun k hk _=>h.block k hk⟩
theorem DW.reset {w':World} {vr' ve' vi':Value} {s':DT} (h:DW B p g bs vr ve vst vo vi s w) (hg:w.grownBy w' (some p)) (hrow:RowAt w' p (Ep vr' ve' vst vo vi' s'))
  (hraw:View w g vr' s'.tok.raw) (herr:Rv ve' s'.bad) (hst:s'.st = s.st) (hinn:View w g vi' (bs.drop s'.k)) (hle:s'.k≤bs.length):DW B p g bs vr' ve' vst vo vi' s' w':=by
 have hgb:w'.heap[g]? = w.heap[g]?:=hg.block g h.gl (fun e=>h.gp (by injection e))
 exact {
  row:=hrow
  raw:=hraw.kept hgb
  err:=herr
  own:=by
   rw [hst];exact World.ownsRow.kept h.own hg (.inr h.ps)
  orig:=h.orig.kept hgb
  inn:=hinn.kept hgb
  le:=hle
  glob:=h.glob.kept fun k hk h9=>hg.block k hk (fun e=>by injection e with e; have:=h.b9; have:=h.bp; omega)
  b9:=h.b9
  bp:=h.bp
  gp:=h.gp
  gl:=by have:=hg.size; have:=h.gl; omega
  gs:=h.gs
  ps:=h.ps }
theorem DW.setIn (h:DW B p g bs vr ve vst vo vi s w) {k:Nat} {vi':Value} (hv:View w g vi' (bs.drop k)) (hk:k≤bs.length):DW B p g bs vr ve vst vo vi' { s with k:=k } (w.setCell ⟨p,10,none⟩ vi'):=
 h.reset (AF w p 10 vi') (by have:=h.row.set 10 (by simp [Ep,AA]) vi'; exact this) h.raw h.err rfl hv hk
theorem DW.setCall (h:DW B p g bs vr ve vst vo vi s w) (b:Bool):DW B p g bs vr ve vst vo vi { s with peeked:=b } (w.setCell ⟨p,0,none⟩ (.int .u8 (if b then 1 else 0))):=
 h.reset (AF w p 0 _) (by have:=h.row.set 0 (by simp [Ep,AA]) (.int .u8 (if b then 1 else 0)); exact this) h.raw h.err rfl h.inn h.le
structure DStep (p:Nat) (vst:Value) (w:World) (vst':Value) (w':World):Prop where
 os:w'.os = w.os
 tape:w'.tape = w.tape
 output:w'.output = w.output
 size:w.heap.size≤w'.heap.size
 block:∀ k,k < w.heap.size→k≠p→vst.ownBlock≠some k→w'.heap[k]? = w.heap[k]?
 lies:∀ k,vst'.ownBlock = some k→vst.ownBlock = some k∨w.heap.size≤k
theorem DStep.of_grown {w':World} (h:w.grownBy w' (some p)):DStep p vst w vst w':=
 ⟨h.os,h.tape,h.output,h.size,fun k hk h1 _=>h.block k hk (fun e=>h1 (by injection e)),fun _ h=>.inl h⟩
theorem DStep.of_below {w':World} (h:Below w.heap.size w w'):DStep p vst w vst w':=DStep.of_grown (Bx h _)
theorem DStep.refl (p:Nat) (vst:Value) (w:World):DStep p vst w vst w:=DStep.of_below (Below.refl _ _)
theorem DStep.trans {v1 v2 v3:Value} {w w1 w2:World} (h:DStep p v1 w v2 w1) (k:DStep p v2 w1 v3 w2):DStep p v1 w v3 w2:=by
 have hs:=h.size;refine ⟨k.os.trans h.os,k.tape.trans h.tape,k.output.trans h.output,Nat.le_trans h.size k.size,fun j hj h1 h2=>?_,fun j hj=>?_⟩
 ·rw [k.block j (by omega) h1 (fun e=>by rcases h.lies j e with e | e; exact h2 e; omega)];exact h.block j hj h1 h2
 ·rcases k.lies j hj with e | e
  ·exact h.lies j e
  ·exact .inr (by omega)
theorem DStep.below {v1 v2:Value} {w':World} (h:DStep p v1 w v2 w') (hp:B≤p) (hB:B≤w.heap.size) (hv:∀ k,v1.ownBlock = some k→B≤k):Below B w w':=
 ⟨h.os,h.tape,h.output,h.size,fun k hk=>h.block k (by omega) (by omega) (fun e=>by have:=hv k e; omega)⟩
theorem DW.ownLe (h:DW B p g bs vr ve vst vo vi s w):∀ k,vst.ownBlock = some k→B≤k:=fun k hk=>(World.ownsRow.lt h.own k hk).1
end
section
section
variable {P:Program} {ops:Array Oper} {rest:List Oper} {a:Act} {w:World} {Q:Exit→Act→World→Prop} {d:Option Tmp} {ty:TypeId} {pos:String} {af:Array Edge} {g:Option (Nat × Bool)}
theorem A0 {t:TypeId} {x i:Operand} (h:wpList P ops Q (⟨d,.indexAddr t x i,ty,pos,af,g⟩::rest) a w):wpList P ops Q (⟨d,.indexAddr t x i,ty,pos,af,g⟩::rest) a w:=h
theorem DL {t:TypeId} {x l:Operand} (h:wpList P ops Q (⟨d,.slice t x (some l) none none,ty,pos,af,g⟩::rest) a w):wpList P ops Q (⟨d,.slice t x (some l) none none,ty,pos,af,g⟩::rest) a w:=h
theorem Rj {t:TypeId} {x l:Operand} (h:wpList P ops Q (⟨d,.slice t x none (some l) none,ty,pos,af,g⟩::rest) a w):wpList P ops Q (⟨d,.slice t x none (some l) none,ty,pos,af,g⟩::rest) a w:=h
theorem is_both {t:TypeId} {x l m:Operand} (h:wpList P ops Q (⟨d,.slice t x (some l) (some m) none,ty,pos,af,g⟩::rest) a w):wpList P ops Q (⟨d,.slice t x (some l) (some m) none,ty,pos,af,g⟩::rest) a w:=h
theorem Fk {s t:TypeId} {x:Operand} (h:wpList P ops Q (⟨d,.convert s t x,ty,pos,af,g⟩::rest) a w):wpList P ops Q (⟨d,.convert s t x,ty,pos,af,g⟩::rest) a w:=h
theorem HI {xs:Array Operand} {ts:Array TypeId} (h:wpList P ops Q (⟨d,.call { callee:=.builtin .len,args:=xs,argTypes:=ts },ty,pos,af,g⟩::rest) a w) :
  wpList P ops Q (⟨d,.call { callee:=.builtin .len,args:=xs,argTypes:=ts },ty,pos,af,g⟩::rest) a w:=h
end
end
end Go.Proofs.YtgdnpnipahegaaaGreatDoor
