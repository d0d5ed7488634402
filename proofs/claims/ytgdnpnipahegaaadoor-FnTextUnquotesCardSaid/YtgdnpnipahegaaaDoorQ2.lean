/-
 The library's DecodeRune on bytes; where a string needs an escape.
-/
import Derived.Test.YtgdnpnipahegaaaDoorDDecode
import Derived.Lib.OthersKept
import Derived.Lib.IfaceEq
import Derived.Lib.Strings
import Derived.Lib.UnsafeStr
import Derived.Lib.Hide
import Derived.Laws.MakeOwn
import Derived.Lib.BufferWrite
import Derived.Lib.AtoiErrMem
import Derived.Deep.RegionWith
import Derived.BigCall
import Derived.BigGuard
import Derived.Test.YtgdnpnipahegaaaDoorQ0
namespace Go.Proofs.YtgdnpnipahegaaaDoor
section
open Go.ChangeShapes Go.WideShapes Go.ChangeAt Go.RowKit Go.Lib
theorem Gg (c:UInt8) (l:List UInt8) (h:c.toNat < 128):DD (c::l) = .tuple #[.int .i32 (c.toNat:Int),.int .i64 1]:=by
 unfold DD chr; rw [Af,if_pos h]; try rfl
set_option maxRecDepth 100000 in
set_option maxHeartbeats 1000000 in
theorem Eu (v:Value) (l:List UInt8) (g:Nat) (w:World) (hv:View w g v l) (hne:l≠[]) (hm:l.length≤100000000) (hT:Lib.Utf8Tabs 1 2 w) :
  Calls Tryd.prog 21 #[v] w fun e w'=>e = .returned (DD l)∧Below w.heap.size w w':=by
 have HS:=hid (C0 v l g w hv hne hm hT);obtain ⟨ao,cap,rfl,hlc,hcm,hn0,off,hao,hcell⟩:=hv;obtain rfl:=hao hne;obtain ⟨c,l,rfl⟩:=List.exists_cons_of_ne_nil hne;have c0:w.cell? ⟨g,off,none⟩ = some (.int .u8 (c.toNat:Int)):=hcell 0 (by simp);have bc:=Ao c
 have hz0:(0:Int) < ((c::l).length:Int):=by simp <;> omega
 clear hcell hao hn0 hne hT
 by_cases h128:c.toNat < 128
 ·have HF:=hid (Gg c l h128)
  have hlt:(c.toNat:Int) < 128:=by omega
  generalize (c::l).length = n at *
  go_enter Tryd.func21,Tryd.ntmps21
  go_wp2_with fail
  go_loop [8] (fun i=>i = .int .i64 0) (fun _=>0)
  case atStart=>rfl
  case round=>
   subst hrel
   go_wp2_with fail
   go_ret2
   exact ⟨by rw [HF.out]; try rfl,Below.refl _ _⟩
 ·have hlt:¬ (c.toNat:Int) < 128:=by omega
  unfold DD at HS ⊢;generalize (chr (c::l)).1 = r1 at *;generalize (chr (c::l)).2 = r2 at *;generalize (c::l).length = n at *;clear h128
  go_enter Tryd.func21,Tryd.ntmps21
  go_wp2_with fail
  go_loop [8] (fun i=>i = .int .i64 0) (fun _=>0)
  case atStart=>rfl
  case round=>
   subst hrel
   go_wp2_with (first | (go_at_call 35; refine (Calls.mono HS.out ?_); rintro e w1 ⟨rfl,hb1⟩) | fail)
   go_ret2
   exact ⟨rfl,hb1⟩
end
section
open Go.ChangeShapes Go.WideShapes Go.ChangeAt Go.RowKit Go.Lib
theorem Ab:(Tryd.prog.info? 5).map (fun i=>(i.zero,i.size,i.bytes)) = some (some (.int .u8 0),1,1):=by kernel_rfl
def A4 (n:Nat):Nat:=if n / 32 % 2 = 1 then n else n+32
theorem low_all:((List.range 256).all fun n=>decide (bits .or .u8 (n:Int) 32 = (A4 n:Int))) = true:=by kernel_rfl
theorem b_or32 (c:UInt8):bits .or .u8 (c.toNat:Int) 32 = (A4 c.toNat:Int):=by
 have h:=List.all_eq_true.1 low_all c.toNat (List.mem_range.2 (by have:=Ao c; omega));exact of_decide_eq_true h
def AH (n:Nat):Nat:=if 48≤n∧n≤57 then n - 48 else if 97≤A4 n∧A4 n≤122 then min 16 (A4 n - 87) else 16
set_option maxRecDepth 100000 in
set_option maxHeartbeats 1000000 in
theorem GP (c:UInt8) (w:World):Calls Tryd.prog 49 #[.int .u8 (c.toNat:Int)] w fun e w'=>e = .returned (.int .u8 (A4 c.toNat:Int))∧w = w':=by
 have HB:=hid (b_or32 c)
 go_enter Tryd.func49,Tryd.ntmps49
 go_wp2
 go_ret
 exact ⟨by first | rfl | (rw [HB.out]; try rfl),rfl⟩
set_option maxRecDepth 100000 in
set_option maxHeartbeats 2000000 in
theorem E2 (s:ByteArray) (w:World) (hlim:s.size≤281474976710656) :
  Calls Tryd.prog 60 #[.string s] w fun e w'=>e = .returned (.string s)∧Below w.heap.size w w':=by
 by_cases h0:s.size = 0
 ·have hs:s = ⟨#[]⟩:=by
   apply ByteArray.ext;exact Array.eq_empty_of_size_eq_zero h0
  subst hs
  go_enter Tryd.func60,Tryd.ntmps60
  go_wp2
  go_ret
  exact ⟨rfl,Below.refl _ _⟩
 ·have hi5:∃ i0,Tryd.prog.info? 5 = some i0∧i0.zero = some (.int .u8 0)∧i0.size = 1∧i0.bytes = 1:=by
   have h:=Ab
   cases hq:Tryd.prog.info? 5 with
   | none=>rw [hq] at h; simp at h
   | some i=>rw [hq] at h; simp only [Option.map_some,Option.some.injEq,Prod.mk.injEq] at h; exact ⟨i,rfl,h⟩
  obtain ⟨i0,hi,hz0,hz1,hz2⟩:=hi5
  have hinfo:(Tryd.prog.info? 5).map (·.size) = some 1:=by rw [hi]; simp [hz1]
  have hco:Tryd.prog.cellsOf 5 = 1:=by simp [Program.cellsOf,hi,hz1]
  obtain ⟨M,hM⟩:∃ M,M = madeCells (Value.int .u8 0).cells (((s.size:Nat):Int).toNat * i0.size):=⟨_,rfl⟩
  have hMs:M.size = s.size:=by rw [hM,size_madeCells,hz1]; simp
  have hmk:∀ W:World,(Instr.makeSlice 27 (.int .i64 (s.size:Int)) (.int .i64 (s.size:Int))).run Tryd.prog W = .ok (.slice (some ⟨W.heap.size,0,none⟩) s.size s.size) (W.alloc (.cells M 5)):=fun W=>by
   have h:=run_make (P:=Tryd.prog) W 27 5 i0 (.int .u8 0) Tryd.underlying27 hi hz0 .i64 .i64 (s.size:Int) (s.size:Int) (by omega) (by omega) (by rw [hz2]; omega) (by omega);rw [←hM] at h
   simpa using h
  clear hM;have hcp:=Lib.run_copy_row_string (P:=Tryd.prog) (w.alloc (.cells M 5)) 27 9 3 5 w.heap.size 0 s.size s.size s M 5 Tryd.underlying27 hinfo (heap_alloc_new w _) (Nat.le_refl _) (by omega);obtain ⟨Y,hY⟩:∃ Y,Y = (M.toList.take 0++Lib.byteCells s.data.toList++M.toList.drop (0+s.size)).toArray:=⟨_,rfl⟩;rw [←hY] at hcp
  have hYl:Y.toList = Lib.byteCells s.data.toList:=by
   rw [hY,List.toList_toArray,List.take_zero,List.nil_append,List.drop_of_length_le (by rw [Array.length_toList]; omega),List.append_nil]
  have hYs:Y.size = s.size:=by rw [←Array.length_toList,hYl,Lib.byteCells_length,←Lib.size_eq]
  have hgY:((w.alloc (.cells M 5)).setRow w.heap.size Y).heap[w.heap.size]? = some (.cells Y 5 (0,0)):=setRow_heap _ _ M _ 5 (0,0) (heap_alloc_new w _);have hne:s.data.toList≠[]:=fun e=>h0 (by rw [Lib.size_eq,e]; try rfl);have hUS:=Lib.run_unsafeString_row (P:=Tryd.prog) ((w.alloc (.cells M 5)).setRow w.heap.size Y) 113 3 9 5 Tryd.underlying113 hco w.heap.size Y.size (by unfold World.shape?; rw [hgY]) s.data.toList hne (by rw [←Lib.size_eq]; omega) (by rw [←Lib.size_eq]; omega)
   (fun j x hx=>Lib.cells_of_row hgY Y.size j _ (by rw [List.take_of_length_le (by rw [Array.length_toList]; exact Nat.le_refl _),hYl]; simp [Lib.byteCells,hx]))
  rw [←Lib.size_eq] at hUS;clear hY
  go_enter Tryd.func60,Tryd.ntmps60
  go_wp2
  go_ret
  have hb1:Below w.heap.size w (w.alloc (.cells M 5)):=(Below.refl _ w).alloc (Nat.le_refl _) _;have hb2:Below w.heap.size (w.alloc (.cells M 5)) ((w.alloc (.cells M 5)).setRow w.heap.size Y):=⟨rfl,rfl,rfl,by simp,fun k hk=>setRow_other _ _ _ _ (by omega)⟩;exact ⟨rfl,Lib.below_freeze (hb1.trans hb2) (p:=⟨w.heap.size,0,none⟩) (Nat.le_refl _) _⟩
def ErrVar (G:Nat) (w:World):Prop:=∃ te pe,w.cell? ⟨G,0,none⟩ = some (.iface te pe)
theorem ErrVar.below {G:Nat} {w w':World} (h:ErrVar G w) (b:Below w.heap.size w w'):ErrVar G w':=by
 obtain ⟨te,pe,hc⟩:=h;exact ⟨te,pe,(b.cell (show (⟨G,0,none⟩:Addr).block < w.heap.size from Lib.lt_of_cell hc)).trans hc⟩
set_option maxRecDepth 100000 in
set_option maxHeartbeats 2000000 in
theorem DN (fn s:ByteArray) (w:World) (hlim:s.size≤281474976710656) (hv:ErrVar 3 w) :
  Calls Tryd.prog 51 #[.string fn,.string s] w fun e w'=>∃ N,e = .returned (.pointer (some ⟨N,0,none⟩))∧Below w.heap.size w w':=by
 obtain ⟨te,pe,hv⟩:=hv;have hG:3 < w.heap.size:=Lib.lt_of_cell hv;have hvd:w.drew.cell? ⟨3,0,none⟩ = some (.iface te pe):=hv
 go_enter Tryd.func51,Tryd.ntmps51
 go_wp2
 go_region_with (
   go_at_call 60
   refine (E2 s _ hlim).mono ?_;rintro e w2 ⟨rfl,hbel⟩
   have hv2:w2.cell? ⟨3,0,none⟩ = some (.iface te pe):=(hbel.cell (show (⟨3,0,none⟩:Addr).block < w.drew.heap.size from hG)).trans hvd)
 all_goals (
  go_wp2
  go_ret
  have hs2:w.heap.size≤w2.heap.size:=hbel.size
  exact ⟨_,rfl,((Below.drew (Below.refl _ w)).trans hbel).alloc hs2 _⟩)
set_option maxRecDepth 100000 in
set_option maxHeartbeats 2000000 in
theorem Cu (fn s:ByteArray) (base bs:Int) (w:World) (hlim:s.size≤281474976710656) (hv:ErrVar 3 w) :
  Calls Tryd.prog 43 #[.string fn,.string s,.int .i64 base,.int .i64 bs,.iface 92 (.int .i64 2)] w fun e w'=>∃ N,e = .returned (.iface 94 (.pointer (some ⟨N,0,none⟩)))∧Below w.heap.size w w':=by
 have heq:∀ W,(binOp .eql 36 (.iface 92 (.int .i64 2)) (.iface 92 (.int .i64 2))).run Tryd.prog W = .ok (.bool true) W:=fun W=>Lib.run_eql_iface_int W 2 2 Tryd.underlying36 (by kernel_rfl) Tryd.underlying92
 go_enter Tryd.func43,Tryd.ntmps43
 go_wp2_with (go_at_call 51; refine (DN fn s _ hlim hv).mono ?_; rintro e w2 ⟨N,rfl,hb⟩)
 go_ret
 exact ⟨N,rfl,hb⟩
end
section
open Go.ChangeShapes Go.WideShapes Go.ChangeAt Go.RowKit Go.Lib
section
variable {P:Program} {ops:Array Oper} {rest:List Oper} {o:Oper} {a:Act} {Q:Exit→Act→World→Prop}
theorem A6 (w:World) (hw:Region.wanted o (yielded ops a.tmps) = true) (x:Operand) (src dst e:TypeId) (ho:o.op = .convert src dst x)
  (hs:P.underlying src = some .string) (hd:P.underlying dst = some (.slice e)) (he:P.underlying e = some (.int .u8))
  (l:List UInt8) (hx:a.eval x = .string ⟨l.toArray⟩) (hm:l.length≤1000000000)
  (h:∀ v' w',View w' w.heap.size v' l→Below w.heap.size w w'→wpList P ops Q rest (a.put o.dst v') w'):wpList P ops Q (o::rest) a w:=by
 have hsz:(⟨l.toArray⟩:ByteArray).size = l.length:=Am l;have hcm:grownCap w (⟨l.toArray⟩:ByteArray).size 0 e≤maxLen:=grownCap_le_maxLen w _ 0 e (by rw [hsz]; unfold maxLen; omega);have hcg:=grownCap_ge w (⟨l.toArray⟩:ByteArray).size 0 e;refine AJ hw fun K hK=>?_;have hrun:=run_bytes_of_string (P:=P) w src dst e ⟨l.toArray⟩ hs hd he;generalize grownCap w (⟨l.toArray⟩:ByteArray).size 0 e = cap at *;unfold Oper.wp;simp [execOp,ho,hx,hrun,Result.andThen];refine hK _ _ (h _ _ ?_ ?_)
 ·rw [hsz] at hcg ⊢;refine ⟨_,cap,rfl,hcg,hcm,(fun h=>by cases h),0,fun _=>rfl,fun j hj=>?_⟩;rw [cell_of_row _ w.heap.size (0+j) _ e _ (heap_alloc_new w.drew _)];unfold bytesRow;rw [Nat.zero_add,Array.getElem?_append_left (by simpa using hj)];simp [hj]
 ·exact (Below.refl _ _).drew.alloc (by simp) _
end
def As:Nat→List UInt8→Option Nat
 | acc,[]=>some acc
 | acc,c::l=>if AH c.toNat < 16 then As (acc * 16+AH c.toNat) l else none
def B2 (l:List UInt8):Value:=match As 0 l with
 | some n=>.tuple #[.int .u64 (n:Int),.nilIface]
 | none=>.tuple #[.int .u64 0,.iface 92 (.int .i64 2)]
theorem Bm {l:List UInt8} {n:Nat} (h:As 0 l = some n):B2 l = .tuple #[.int .u64 (n:Int),.nilIface]:=by unfold B2; rw [h]
theorem A0 {l:List UInt8} (h:As 0 l = none):B2 l = .tuple #[.int .u64 0,.iface 92 (.int .i64 2)]:=by unfold B2; rw [h]
theorem Dz {l:List UInt8} {k acc:Nat} (hk:k < l.length):As acc (l.drop k) = if AH l[k].toNat < 16 then As (acc * 16+AH l[k].toNat) (l.drop (k+1)) else none:=by
 rw [List.drop_eq_getElem_cons hk,As]
theorem Fo:∀ (l:List UInt8) (acc n:Nat),As acc l = some n→n+1≤(acc+1) * 16 ^ l.length:=by
 intro l
 induction l with
 | nil=>intro acc n h; simp [As] at h; simp; omega
 | cons c l ih=>
  intro acc n h;rw [As] at h
  by_cases hc:AH c.toNat < 16
  ·rw [if_pos hc] at h;have:=ih _ _ h;rw [List.length_cons,Nat.pow_succ,Nat.mul_comm (16 ^ l.length) 16,←Nat.mul_assoc];exact Nat.le_trans this (Nat.mul_le_mul_right _ (by omega))
  ·rw [if_neg hc] at h; cases h
end
section
open Go.ChangeShapes Go.WideShapes Go.ChangeAt Go.RowKit
theorem CU {l:List UInt8} {k:Nat} (h:k < l.length):l.drop k = l[k]::l.drop (k+1):=List.drop_eq_getElem_cons h
end
section
open Go.ChangeShapes Go.WideShapes Go.ChangeAt Go.RowKit
def AA (c:Nat):List UInt8:=
 if c < 128 then [UInt8.ofNat c] else if c < 2048 then [UInt8.ofNat (192+c / 64),UInt8.ofNat (128+c % 64)]
 else if c < 65536 then [UInt8.ofNat (224+c / 4096),UInt8.ofNat (128+c / 64 % 64),UInt8.ofNat (128+c % 64)]
 else [UInt8.ofNat (240+c / 262144),UInt8.ofNat (128+c / 4096 % 64),UInt8.ofNat (128+c / 64 % 64),UInt8.ofNat (128+c % 64)]
theorem BL {x:Int} (h0:0≤x) (h1:x < 2147483648):bits .and .i64 x 63 = x % 64:=bits_mask .i64 63 (by decide) A2 6 (by decide) x h0 (by omega)
theorem BK {y:Int} (h0:0≤y) (h1:y < 64):bits .or .i64 128 y = 128+y:=bits_join .i64 63 (by decide) A2 6 128 y (by decide) (by decide) (by decide) h0 h1 (by omega)
theorem EX {y:Int} (h0:0≤y) (h1:y < 32):bits .or .i64 192 y = 192+y:=bits_join .i64 63 (by decide) A2 5 192 y (by decide) (by decide) (by decide) h0 (by omega) (by omega)
theorem EW {y:Int} (h0:0≤y) (h1:y < 16):bits .or .i64 224 y = 224+y:=bits_join .i64 63 (by decide) A2 4 224 y (by decide) (by decide) (by decide) h0 (by omega) (by omega)
theorem EV {y:Int} (h0:0≤y) (h1:y < 8):bits .or .i64 240 y = 240+y:=bits_join .i64 63 (by decide) A2 3 240 y (by decide) (by decide) (by decide) h0 (by omega) (by omega)
theorem A7 (w:World) (bs:List UInt8) (cells:Array Value) (t:TypeId) (hc:cells.toList = byteCells bs) (hm:bs.length≤maxLen):View (w.alloc (.cells cells t)) w.heap.size (.slice (some ⟨w.heap.size,0,none⟩) bs.length bs.length) bs:=
 ⟨_,_,rfl,Nat.le_refl _,hm,(fun h=>by cases h),0,(fun _=>rfl),fun j hj=>by
  rw [World.cell?_alloc_at cells t _ (0+j) rfl,←Array.getElem?_toList,hc]
  simp [byteCells,hj]⟩
set_option maxRecDepth 100000 in
theorem Cr (c:Nat) (w:World) (hc:c < 2097152) :
  Calls Tryd.prog 32 #[.int .i64 c] w fun e w'=>(∃ v,e = .returned v∧View w' w.heap.size v (AA c))∧Below w.heap.size w w':=by
 have hb0:=Below.refl w.heap.size w
 by_cases h1:(c:Int) < 128
 ·have HE:Hid (AA c = [UInt8.ofNat c]):=hid (by unfold AA; rw [if_pos (by omega)])
  go_enter Tryd.func32,Tryd.ntmps32
  go_wp2_with fail
  go_ret
  refine ⟨⟨_,rfl,?_⟩,hb0.alloc (Nat.le_refl _) _⟩;rw [HE.out];exact A7 w [UInt8.ofNat c] _ _ (by simp [byteCells]; omega) (by simp [maxLen])
 ·have hB:=BL (x:=c) (by omega) (by omega);have hC:=BK (y:=(c:Int) % 64) (by omega) (by omega);have hB2:=BL (x:=(c:Int) / 64) (by omega) (by omega);have hC2:=BK (y:=(c:Int) / 64 % 64) (by omega) (by omega);have hB3:=BL (x:=(c:Int) / 4096) (by omega) (by omega);have hC3:=BK (y:=(c:Int) / 4096 % 64) (by omega) (by omega)
  by_cases h2:(c:Int) < 2048
  ·have HE:Hid (AA c = [UInt8.ofNat (192+c / 64),UInt8.ofNat (128+c % 64)]):=hid (by unfold AA; rw [if_neg (by omega),if_pos (by omega)]);have hA:=EX (y:=(c:Int) / 64) (by omega) (by omega)
   go_enter Tryd.func32,Tryd.ntmps32
   go_wp2_with fail
   go_ret
   refine ⟨⟨_,rfl,?_⟩,hb0.alloc (Nat.le_refl _) _⟩;rw [HE.out];exact A7 w [UInt8.ofNat (192+c / 64),UInt8.ofNat (128+c % 64)] _ _ (by simp [byteCells]; omega) (by simp [maxLen])
  ·by_cases h3:(c:Int) < 65536
   ·have HE:Hid (AA c = [UInt8.ofNat (224+c / 4096),UInt8.ofNat (128+c / 64 % 64),UInt8.ofNat (128+c % 64)]):=hid (by unfold AA; rw [if_neg (by omega),if_neg (by omega),if_pos (by omega)]);have hA:=EW (y:=(c:Int) / 4096) (by omega) (by omega)
    go_enter Tryd.func32,Tryd.ntmps32
    go_wp2_with fail
    go_ret
    refine ⟨⟨_,rfl,?_⟩,hb0.alloc (Nat.le_refl _) _⟩;rw [HE.out];exact A7 w [UInt8.ofNat (224+c / 4096),UInt8.ofNat (128+c / 64 % 64),UInt8.ofNat (128+c % 64)] _ _ (by simp [byteCells]; omega) (by simp [maxLen])
   ·have HE:Hid (AA c = [UInt8.ofNat (240+c / 262144),UInt8.ofNat (128+c / 4096 % 64),UInt8.ofNat (128+c / 64 % 64),UInt8.ofNat (128+c % 64)]):=hid (by unfold AA; rw [if_neg (by omega),if_neg (by omega),if_neg (by omega)]);have hA:=EV (y:=(c:Int) / 262144) (by omega) (by omega)
    go_enter Tryd.func32,Tryd.ntmps32
    go_wp2_with fail
    go_ret
    refine ⟨⟨_,rfl,?_⟩,hb0.alloc (Nat.le_refl _) _⟩;rw [HE.out];exact A7 w [UInt8.ofNat (240+c / 262144),UInt8.ofNat (128+c / 4096 % 64),UInt8.ofNat (128+c / 64 % 64),UInt8.ofNat (128+c % 64)] _ _ (by simp [byteCells]; omega) (by simp [maxLen])
end
section
def Bp (v:Nat):Bool:=decide (55296≤v) && decide (v < 57344)
def AU (v u:Nat):Nat:=if 55296≤v∧v < 56320∧56320≤u∧u < 57344 then (v - 55296) * 1024+(u - 56320)+65536 else 65533
def Ai (c:UInt8):Bool:=decide (48≤c.toNat) && decide (c.toNat≤55)
def Aq (c:UInt8):Bool:=decide (48≤c.toNat) && decide (c.toNat≤57) || (decide (97≤c.toNat) && decide (c.toNat≤102) || decide (65≤c.toNat) && decide (c.toNat≤70))
def Au (p:UInt8→Bool):List UInt8→Nat
 | []=>0
 | c::l=>if p c then Au p l+1 else 0
theorem AK (p:UInt8→Bool) (c:UInt8) (l:List UInt8):Au p (c::l) = if p c then Au p l+1 else 0:=rfl
theorem Bb (p:UInt8→Bool):∀ l,Au p l≤l.length
 | []=>Nat.le_refl _
 | c::l=>by rw [AK]; split <;> simp; exact Bb p l
theorem B6 (p:UInt8→Bool):∀ (l:List UInt8),∀ c ∈ l.take (Au p l),p c = true
 | [],c,h=>by simp at h
 | d::l,c,h=>by
  rw [AK] at h
  split at h
  ·rename_i hd
   rw [List.take_succ_cons,List.mem_cons] at h
   rcases h with rfl | h
   ·exact hd
   ·exact B6 p l c h
  ·simp at h
def BH:Nat→List UInt8→Nat
 | acc,[]=>acc
 | acc,c::l=>BH (acc * 8+(c.toNat - 48)) l
def A5 (c:Nat):Nat:=if c = 34∨c = 39∨c = 92∨c = 63 then c else if c = 97 then 7 else if c = 98 then 8 else if c = 110 then 10 else if c = 114 then 13 else if c = 116 then 9 else if c = 118 then 11 else if c = 102 then 12 else 0
def BI (d:Nat) (l:List UInt8):Option (List UInt8 × Nat):=
 if l.length < d+2 then none else match As 0 ((l.drop 2).take d) with
 | none=>none
 | some v=>if 1114111 < v then none else if Bp v = false then some (AA v,d+2)
  else if l.length < d+8 then none
  else match As 0 ((l.drop (d+4)).take 4) with
  | none=>none
  | some u=>if (l.getD (d+2) 0).toNat = 92∧(l.getD (d+3) 0).toNat = 117∧AU v u≠65533 then some (AA (AU v u),d+8) else none
def Fg (l:List UInt8):Option (List UInt8 × Nat):=if 255 < BH 0 (l.take (min 3 (Au Ai l))) then none else some ([UInt8.ofNat (BH 0 (l.take (min 3 (Au Ai l))))],1+min 3 (Au Ai l))
def Cm (l:List UInt8):Option (List UInt8 × Nat):=if Au Aq l = 0 then none else match As 0 (l.take (min 2 (Au Aq l))) with
 | none=>none
 | some v=>some ([UInt8.ofNat v],2+min 2 (Au Aq l))
def CZ:List UInt8→Option (List UInt8 × Nat)
 | b::c::l=>if A5 c.toNat≠0 then some ([UInt8.ofNat (A5 c.toNat)],2) else if Ai c then Fg (c::l) else if c.toNat = 120 then Cm l
  else if c.toNat = 117 then BI 4 (b::c::l) else if c.toNat = 85 then BI 8 (b::c::l) else none
 | _=>none
theorem AF (b c:UInt8) (l:List UInt8):CZ (b::c::l) = if A5 c.toNat≠0 then some ([UInt8.ofNat (A5 c.toNat)],2) else if Ai c then Fg (c::l) else if c.toNat = 120 then Cm l
  else if c.toNat = 117 then BI 4 (b::c::l) else if c.toNat = 85 then BI 8 (b::c::l) else none:=rfl
theorem Dh (v:Nat):(AA v).length≤4:=by
 unfold AA
 split
 ·exact (by decide:1≤4)
 ·split
  ·exact (by decide:2≤4)
  ·split
   ·exact (by decide:3≤4)
   ·exact (by decide:4≤4)
theorem EI {d:Nat} {l b:List UInt8} {n:Nat} (h:BI d l = some (b,n)):(2≤n∧n≤l.length)∧b.length≤4:=by
 unfold BI at h
 by_cases h1:l.length < d+2
 ·rw [if_pos h1] at h; cases h
 ·rw [if_neg h1] at h
  rcases hv:As 0 ((l.drop 2).take d) with _ | v
  ·rw [hv] at h; cases h
  ·rw [hv] at h;simp only at h
   by_cases h0:1114111 < v
   ·rw [if_pos h0] at h; cases h
   ·rw [if_neg h0] at h
    by_cases h2:Bp v = false
    ·rw [if_pos h2] at h; cases h; exact ⟨by omega,Dh _⟩
    ·rw [if_neg h2] at h
     by_cases h3:l.length < d+8
     ·rw [if_pos h3] at h; cases h
     ·rw [if_neg h3] at h
      rcases hu:As 0 ((l.drop (d+4)).take 4) with _ | u
      ·rw [hu] at h; cases h
      ·rw [hu] at h;simp only at h
       split at h
       ·cases h; exact ⟨by omega,Dh _⟩
       ·cases h
theorem GO {l b:List UInt8} {n:Nat} (h:Fg l = some (b,n)):(1≤n∧n≤1+l.length)∧b.length = 1:=by
 unfold Fg at h;have:=Bb Ai l
 split at h
 ·cases h
 ·cases h; exact ⟨by omega,rfl⟩
theorem Gd {l b:List UInt8} {n:Nat} (h:Cm l = some (b,n)):(2≤n∧n≤2+l.length)∧b.length = 1:=by
 unfold Cm at h;have:=Bb Aq l
 split at h
 ·cases h
 ·split at h
  ·cases h
  ·cases h; exact ⟨by omega,rfl⟩
theorem E0 {l b:List UInt8} {n:Nat} (h:CZ l = some (b,n)):(1≤n∧n≤l.length)∧b.length≤4:=by
 match l,h with
 | a::c::l,h=>
  rw [AF] at h
  split at h
  ·cases h; exact ⟨by simp,(by decide:1≤4)⟩
  ·split at h
   ·have:=GO h; simp at this ⊢; omega
   ·split at h
    ·have:=Gd h; simp at this ⊢; omega
    ·split at h
     ·have:=EI h; omega
     ·split at h
      ·have:=EI h; omega
      ·cases h
def DH (q:Nat):Nat→List UInt8→List UInt8→Option (List UInt8 × Nat)
 | 0,_,_=>none
 | f+1,l,out=>match An l with
  | none=>none
  | some (c,n)=>if c = 0∨c = 10 then none else if c = q then some (out,l.length - 1)
   else if c = 92 then (match CZ l with
    | none=>none
    | some (b,m)=>DH q f (l.drop m) (out++b))
   else DH q f (l.drop n) (out++l.take n)
def Ak (q:Nat) (l out:List UInt8):Option (List UInt8 × Nat):=DH q l.length l out
theorem Ch (q:Nat):∀ (f g:Nat) (l out:List UInt8),l.length≤f→l.length≤g→DH q f l out = DH q g l out
 | 0,0,_,_,_,_=>rfl
 | 0,g+1,l,out,h,_=>by
  have:l = []:=List.eq_nil_of_length_eq_zero (by omega);subst this; rfl
 | f+1,0,l,out,_,h=>by
  have:l = []:=List.eq_nil_of_length_eq_zero (by omega);subst this; rfl
 | f+1,g+1,l,out,hf,hg=>by
  unfold DH
  rcases hu:An l with _ | ⟨c,n⟩
  ·rfl
  ·have hn:=At hu;simp only
   split
   ·rfl
   ·split
    ·rfl
    ·split
     ·rcases he:CZ l with _ | ⟨b,m⟩
      ·rfl
      ·have hm:=E0 he;exact Ch q f g _ _ (by simp; omega) (by simp; omega)
     ·exact Ch q f g _ _ (by simp; omega) (by simp; omega)
theorem Dn {q:Nat} {l out:List UInt8} (h:An l = none):Ak q l out = none:=by
 unfold Ak
 cases l with
 | nil=>rfl
 | cons c l=>rw [List.length_cons,DH,h]
theorem BJ {q:Nat} {l out:List UInt8} {c n:Nat} (h:An l = some (c,n)):Ak q l out = if c = 0∨c = 10 then none else if c = q then some (out,l.length - 1)
   else if c = 92 then (match CZ l with
    | none=>none
    | some (b,m)=>Ak q (l.drop m) (out++b))
   else Ak q (l.drop n) (out++l.take n):=by
 have hn:=At h;obtain ⟨f,hf⟩:∃ f,l.length = f+1:=⟨l.length - 1,by omega⟩
 conv=>lhs; unfold Ak
 rw [hf,DH,h];simp only;rw [hf]
 split
 ·rfl
 ·split
  ·rfl
  ·split
   ·rcases he:CZ l with _ | ⟨b,m⟩
    ·rfl
    ·have hm:=E0 he;exact Ch q _ _ _ _ (by simp; omega) (Nat.le_refl _)
   ·exact Ch q _ _ _ _ (by simp; omega) (Nat.le_refl _)
def Bj (c:UInt8):Bool:=!(decide (c.toNat < 32) || (c.toNat == 34 || (c.toNat == 39 || (c.toNat == 92 || decide (127≤c.toNat)))))
def AV (l:List UInt8):Nat:=Au Bj l
theorem Dm {q:Nat} (hq:q = 34∨q = 39):∀ (l out:List UInt8),Ak q l out = Ak q (l.drop (AV l)) (out++l.take (AV l))
 | [],out=>by simp
 | c::l,out=>by
  unfold AV;rw [AK]
  cases hc:Bj c with
  | false=>simp
  | true=>
   rw [if_pos rfl];unfold Bj at hc;simp at hc
   have hu:An (c::l) = some (c.toNat,1):=by rw [Af,if_pos (by omega)]
   rw [BJ hu,if_neg (by omega),if_neg (by omega),if_neg (by omega)];rw [List.drop_succ_cons,List.take_succ_cons,List.drop_succ_cons,List.drop_zero,List.take_succ_cons,List.take_zero];rw [Dm hq l (out++[c])];unfold AV;simp
end
section
theorem DG:∀ (k acc v:Nat) (l r:List UInt8),Ae k acc l = some v→Ae k acc (l.take k++r) = some v
 | 0,_,_,_,_,h=>h
 | k+1,acc,v,[],_,h=>by simp [Ae] at h
 | k+1,acc,v,c::l,r,h=>by
  unfold Ae at h;simp only [List.take_succ_cons,List.cons_append];unfold Ae
  split at h
  ·rename_i hc; rw [if_pos hc]; exact DG k _ v l r h
  ·cases h
theorem Ct {l r:List UInt8} {c n:Nat} (h:An l = some (c,n)):An (l.take n++r) = some (c,n):=by
 have hs:=At h
 cases l with
 | nil=>cases h
 | cons b l=>
  obtain ⟨n,rfl⟩:∃ m,n = m+1:=⟨n - 1,by omega⟩;simp only [List.take_succ_cons,List.cons_append];rw [Af] at h ⊢
  by_cases h1:b.toNat < 128
  ·rw [if_pos h1] at h ⊢; exact h
  ·rw [if_neg h1] at h ⊢
   rcases hh:Ar b.toNat with _ | ⟨k,least,first⟩
   ·rw [hh] at h; cases h
   ·rw [hh] at h;simp only at h ⊢
    rcases ht:Ae k first l with _ | v'
    ·rw [ht] at h; cases h
    ·rw [ht] at h;simp only at h
     split at h
     ·rename_i hok
      simp only [Option.some.injEq,Prod.mk.injEq] at h;obtain ⟨rfl,hk⟩:=h
      obtain rfl:k = n:=by omega
      rw [DG _ _ _ _ r ht];simp only;rw [if_pos hok]
     ·cases h
theorem CE {d:UInt8} {x:Nat} (h:BW d = true) (hx:x = 128+d.toNat % 64):UInt8.ofNat x = d:=by
 unfold BW at h;simp at h;have:=d.toNat_lt
 have:x = d.toNat:=by omega
 rw [this]; simp
theorem DZ {d:UInt8} {x:Nat} (hx:x = d.toNat):UInt8.ofNat x = d:=by rw [hx]; simp
theorem GV {l:List UInt8} {c n:Nat} (h:An l = some (c,n)):AA c = l.take n:=by
 cases l with
 | nil=>cases h
 | cons b l=>
  rw [Af] at h
  by_cases h1:b.toNat < 128
  ·rw [if_pos h1] at h;cases h
   unfold AA; rw [if_pos h1,DZ rfl]; try rfl
  ·rw [if_neg h1] at h
   rcases hh:Ar b.toNat with _ | ⟨k,least,first⟩
   ·rw [hh] at h; cases h
   ·rw [hh] at h;simp only at h
    rcases ht:Ae k first l with _ | v'
    ·rw [ht] at h; cases h
    ·rw [ht] at h;simp only at h
     split at h
     ·rename_i hok
      simp only [Option.some.injEq,Prod.mk.injEq] at h;obtain ⟨rfl,rfl⟩:=h;have hb:=b.toNat_lt;unfold Co at hok;simp at hok;unfold Ar at hh
      by_cases g1:194≤b.toNat∧b.toNat < 224
      ·rw [if_pos g1] at hh;simp only [Option.some.injEq,Prod.mk.injEq] at hh;obtain ⟨rfl,rfl,rfl⟩:=hh
       match l,ht with
       | d::l,ht=>
        simp only [Ae] at ht
        split at ht
        ·rename_i hd
         simp only [Option.some.injEq] at ht;have hd':=Nat.mod_lt d.toNat (show 64 > 0 by decide);unfold AA
         rw [if_neg (by omega),if_pos (by omega),DZ (d:=b) (by omega),CE hd (by omega)]; try rfl
        ·cases ht
      ·rw [if_neg g1] at hh
       by_cases g2:224≤b.toNat∧b.toNat < 240
       ·rw [if_pos g2] at hh;simp only [Option.some.injEq,Prod.mk.injEq] at hh;obtain ⟨rfl,rfl,rfl⟩:=hh
        match l,ht with
        | d::e::l,ht=>
         simp only [Ae] at ht
         split at ht
         ·rename_i hd
          split at ht
          ·rename_i he
           simp only [Option.some.injEq] at ht;have hd':=Nat.mod_lt d.toNat (show 64 > 0 by decide);have he':=Nat.mod_lt e.toNat (show 64 > 0 by decide);unfold AA
           rw [if_neg (by omega),if_neg (by omega),if_pos (by omega),DZ (d:=b) (by omega),CE hd (by omega),CE he (by omega)]; try rfl
          ·cases ht
         ·cases ht
        | [d],ht=>
         simp only [Ae] at ht
         split at ht <;> cases ht
       ·rw [if_neg g2] at hh
        by_cases g3:240≤b.toNat∧b.toNat < 245
        ·rw [if_pos g3] at hh;simp only [Option.some.injEq,Prod.mk.injEq] at hh;obtain ⟨rfl,rfl,rfl⟩:=hh
         match l,ht with
         | d::e::f::l,ht=>
          simp only [Ae] at ht
          split at ht
          ·rename_i hd
           split at ht
           ·rename_i he
            split at ht
            ·rename_i hf
             simp only [Option.some.injEq] at ht;have hd':=Nat.mod_lt d.toNat (show 64 > 0 by decide);have he':=Nat.mod_lt e.toNat (show 64 > 0 by decide);have hf':=Nat.mod_lt f.toNat (show 64 > 0 by decide);unfold AA
             rw [if_neg (by omega),if_neg (by omega),if_neg (by omega),DZ (d:=b) (by omega),CE hd (by omega),CE he (by omega),CE hf (by omega)]; try rfl
            ·cases ht
           ·cases ht
          ·cases ht
         | [d],ht=>
          simp only [Ae] at ht
          split at ht <;> cases ht
         | [d,e],ht=>
          simp only [Ae] at ht
          repeat' split at ht
          all_goals cases ht
        ·rw [if_neg g3] at hh; cases hh
     ·cases h
end
section
def A9 (d:Nat) (l:List UInt8):Option (List UInt8 × Nat × Nat):=if l.length < d then none else match As 0 (l.take d) with
 | none=>none
 | some v=>if 1114111 < v∨(55296≤v∧v < 57344) then some ([],1+d,2) else some (AA v,1+d,1)
def Fi (l:List UInt8):List UInt8 × Nat × Nat:=if 255 < BH 0 (l.take (min 3 (Au Ai l))) then ([],min 3 (Au Ai l),2) else ([UInt8.ofNat (BH 0 (l.take (min 3 (Au Ai l))))],min 3 (Au Ai l),1)
def De (l:List UInt8):List UInt8 × Nat × Nat:=if Au Aq l = 0 then ([],1,2) else ([UInt8.ofNat ((As 0 (l.take (min 2 (Au Aq l)))).getD 0)],1+min 2 (Au Aq l),1)
def AP:List UInt8→Option (List UInt8 × Nat × Nat)
 | []=>none
 | c::l=>if A5 c.toNat≠0 then some ([UInt8.ofNat (A5 c.toNat)],1,1) else if Ai c then some (Fi (c::l)) else if c.toNat = 120 then some (De l)
  else if c.toNat = 117 then A9 4 l else if c.toNat = 85 then A9 8 l else if c.toNat = 88∨c.toNat = 10 then some ([],1,2) else none
theorem Bl (c:UInt8) (l:List UInt8):AP (c::l) = if A5 c.toNat≠0 then some ([UInt8.ofNat (A5 c.toNat)],1,1) else if Ai c then some (Fi (c::l)) else if c.toNat = 120 then some (De l)
  else if c.toNat = 117 then A9 4 l else if c.toNat = 85 then A9 8 l else if c.toNat = 88∨c.toNat = 10 then some ([],1,2) else none:=rfl
def DU (c:UInt8):Bool:=decide (c.toNat < 32) && c.toNat != 9 || c.toNat == 127
def Bq (q:Nat) (whole:List UInt8):Nat→List UInt8→List UInt8→Nat→List UInt8 × Nat × Nat
 | 0,_,_,_=>([],0,0)
 | _+1,[],_,_=>([],0,0)
 | f+1,c::l,out,told=>if c.toNat = q then (out,(if Bc (whole.take (whole.length - l.length)) then told else 2),l.length) else if c.toNat = 10 then ([],0,0)
  else if c.toNat = 92 then (match AP l with
   | none=>([],0,0)
   | some (x,n,ok)=>Bq q whole f (l.drop n) (out++x) (max told ok))
  else Bq q whole f l (out++[c]) (if DU c then 2 else told)
def CL (c:UInt8) (r:List UInt8):List UInt8 × Nat:=if c.toNat≠34∧c.toNat≠39 then ([],2) else if (Bq c.toNat (c::r) r.length r [] 1).2.1≠1 then ([],(Bq c.toNat (c::r) r.length r [] 1).2.1)
  else if (Bq c.toNat (c::r) r.length r [] 1).2.2≠0 then ([],2) else ((Bq c.toNat (c::r) r.length r [] 1).1,1)
def Cw:List UInt8→List UInt8 × Nat
 | []=>([],0)
 | c::r=>CL c r
def DM:List UInt8→Option (List UInt8)
 | []=>none
 | c::r=>match Ak c.toNat r [] with
  | none=>none
  | some (s,_)=>some s
theorem Bk {l x:List UInt8} {n ok:Nat} (h:AP l = some (x,n,ok)):n≤l.length∧1≤n∧(ok = 1∨ok = 2):=by
 cases l with
 | nil=>cases h
 | cons c l=>
  have ho:=Bb Ai (c::l);have hx:=Bb Aq l
  have hp:∀ d,A9 d l = some (x,n,ok)→n≤(c::l).length∧1≤n∧(ok = 1∨ok = 2):=by
   intro d h;unfold A9 at h
   split at h
   ·cases h
   ·split at h
    ·cases h
    ·split at h
     ·cases h; simp; omega
     ·cases h; simp; omega
  rw [Bl] at h
  split at h
  ·cases h; simp
  ·split at h
   ·rename_i hc
    have h1:1≤Au Ai (c::l):=by rw [AK,if_pos hc]; omega
    unfold Fi at h
    split at h
    ·cases h; omega
    ·cases h; omega
   ·split at h
    ·unfold De at h
     split at h
     ·cases h; simp
     ·cases h; simp; omega
    ·split at h
     ·exact hp 4 h
     ·split at h
      ·exact hp 8 h
      ·split at h
       ·cases h; simp
       ·cases h
theorem Dr (q:Nat) (whole:List UInt8):∀ (f g:Nat) (l out:List UInt8) (told:Nat),l.length≤f→l.length≤g→Bq q whole f l out told = Bq q whole g l out told
 | 0,0,_,_,_,_,_=>rfl
 | 0,g+1,l,out,told,h,_=>by
  have:l = []:=List.eq_nil_of_length_eq_zero (by omega);subst this; rfl
 | f+1,0,l,out,told,_,h=>by
  have:l = []:=List.eq_nil_of_length_eq_zero (by omega);subst this; rfl
 | f+1,g+1,[],out,told,_,_=>rfl
 | f+1,g+1,c::l,out,told,hf,hg=>by
  simp only [List.length_cons] at hf hg;unfold Bq
  split
  ·rfl
  ·split
   ·rfl
   ·split
    ·rcases he:AP l with _ | ⟨x,n,ok⟩
     ·rfl
     ·exact Dr q whole f g _ _ _ (by simp; omega) (by simp; omega)
    ·exact Dr q whole f g _ _ _ (by omega) (by omega)
def A8 (q:Nat) (whole l out:List UInt8) (told:Nat):List UInt8 × Nat × Nat:=Bq q whole l.length l out told
theorem BC {q:Nat} {whole:List UInt8} (c:UInt8) (l out:List UInt8) (told:Nat):A8 q whole (c::l) out told = if c.toNat = q then (out,(if Bc (whole.take (whole.length - l.length)) then told else 2),l.length) else if c.toNat = 10 then ([],0,0)
  else if c.toNat = 92 then (match AP l with
   | none=>([],0,0)
   | some (x,n,ok)=>A8 q whole (l.drop n) (out++x) (max told ok))
  else A8 q whole l (out++[c]) (if DU c then 2 else told):=by
 unfold A8;rw [List.length_cons,Bq]
 split
 ·rfl
 ·split
  ·rfl
  ·split
   ·rcases he:AP l with _ | ⟨x,n,ok⟩
    ·rfl
    ·exact Dr q whole _ _ _ _ _ (by simp) (Nat.le_refl _)
   ·rfl
def Bv (pre:List UInt8):Prop:=∀ x,Bc (pre++x) = Bc x
theorem Ci {pre l:List UInt8} {c n:Nat} (h:Bv pre) (hu:An l = some (c,n)):Bv (pre++l.take n):=by
 intro x;have hs:=At hu;rw [List.append_assoc,h,CP (Ct hu (r:=x)),List.drop_left' (by rw [List.length_take]; omega)]
theorem BE {pre:List UInt8} (h:Bv pre):∀ (l:List UInt8),(∀ c ∈ l,c.toNat < 128)→Bv (pre++l)
 | [],_=>by rw [List.append_nil]; exact h
 | c::l,hl=>by
  have h1:Bv (pre++[c]):=fun x=>by
   rw [List.append_assoc,h,List.singleton_append,CP (v:=c.toNat) (n:=1) (by rw [Af,if_pos (hl c (by simp))])]
   try rfl
  have:=BE h1 l (fun d hd=>hl d (by simp [hd]));rwa [List.append_assoc,List.singleton_append] at this
theorem Gc {c:UInt8} (h:AH c.toNat < 16):c.toNat < 128:=by
 have hc:=c.toNat_lt
 have hl:A4 c.toNat = c.toNat∨A4 c.toNat = c.toNat+32:=by unfold A4; split <;> simp
 unfold AH at h
 split at h
 ·omega
 ·split at h
  ·have h2:A4 c.toNat < 103:=by omega
   omega
  ·omega
theorem Ep:∀ (l:List UInt8) (acc v:Nat),As acc l = some v→∀ c ∈ l,c.toNat < 128
 | [],_,_,_,c,hc=>by simp at hc
 | d::l,acc,v,h,c,hc=>by
  unfold As at h
  split at h
  ·rename_i hd
   rcases List.mem_cons.1 hc with rfl | hc
   ·exact Gc hd
   ·exact Ep l _ _ h c hc
  ·cases h
theorem DK {l x:List UInt8} {n ok:Nat} (h:AP l = some (x,n,ok)):∀ c ∈ l.take n,c.toNat < 128:=by
 cases l with
 | nil=>simp
 | cons c l=>
  have one:c.toNat < 128→∀ d ∈ (c::l).take 1,d.toNat < 128:=by
   intro h d hd;simp at hd; subst hd; exact h
  have point:∀ k,c.toNat < 128→A9 k l = some (x,n,ok)→∀ d ∈ (c::l).take n,d.toNat < 128:=by
   intro k hc h d hd;unfold A9 at h
   split at h
   ·cases h
   ·rcases hx:As 0 (l.take k) with _ | v
    ·rw [hx] at h; cases h
    ·rw [hx] at h
     have hn:n = 1+k:=by
      simp only at h
      split at h <;> cases h <;> rfl
     subst hn;rw [Nat.add_comm,List.take_succ_cons,List.mem_cons] at hd
     rcases hd with rfl | hd
     ·exact hc
     ·exact Ep _ _ _ hx d hd
  rw [Bl] at h
  split at h
  ·rename_i hc
   cases h;refine one ?_;unfold A5 at hc
   repeat' split at hc
   all_goals omega
  ·split at h
   ·rename_i hc
    have hn:n = min 3 (Au Ai (c::l)):=by unfold Fi at h; split at h <;> cases h <;> rfl
    subst hn;intro d hd;have:=B6 Ai (c::l) d (List.take_subset_take_left _ (Nat.min_le_right _ _) hd);unfold Ai at this;simp at this;omega
   ·split at h
    ·rename_i hc
     unfold De at h
     split at h
     ·cases h; exact one (by omega)
     ·cases h;intro d hd;rw [Nat.add_comm,List.take_succ_cons,List.mem_cons] at hd
      rcases hd with rfl | hd
      ·omega
      ·have:=B6 Aq l d (List.take_subset_take_left _ (Nat.min_le_right _ _) hd);unfold Aq at this;simp at this;omega
    ·split at h
     ·exact point 4 (by omega) h
     ·split at h
      ·exact point 8 (by omega) h
      ·split at h
       ·cases h; exact one (by omega)
       ·cases h
theorem Gw {c:UInt8} (h:Aq c = true):AH c.toNat < 16:=by
 unfold Aq at h;simp at h
 have hl:(48≤c.toNat∧c.toNat≤57)∨97≤A4 c.toNat∧A4 c.toNat≤102:=by
  unfold A4
  rcases h with h | h | h
  ·exact .inl h
  ·rw [if_pos (by omega)]; exact .inr h
  ·rw [if_neg (by omega)]; exact .inr (by omega)
 unfold AH
 split
 ·omega
 ·rw [if_pos (by omega)]; omega
theorem FQ:∀ (l:List UInt8) (acc:Nat),(∀ c ∈ l,Aq c = true)→∃ v,As acc l = some v
 | [],acc,_=>⟨acc,rfl⟩
 | c::l,acc,h=>by
  unfold As;rw [if_pos (Gw (h c (by simp)))];exact FQ l _ (fun d hd=>h d (by simp [hd]))
theorem hexT2_R (l:List UInt8):∃ v,As 0 (l.take (min 2 (Au Aq l))) = some v:=
 FQ _ 0 (fun c hc=>B6 Aq l c (List.take_subset_take_left _ (Nat.min_le_right _ _) hc))
theorem EL (v:Nat):Bp v = false↔¬ (55296≤v∧v < 57344):=by unfold Bp; simp
def Gj (a:UInt8) (l:List UInt8):Prop:=
 (AP l = none∧CZ (a::l) = none)∨(∃ x n,AP l = some (x,n,1)∧CZ (a::l) = some (x,n+1))∨(∃ x n,AP l = some (x,n,2)∧CZ (a::l) = none)∨
 (∃ x n b d e x',AP l = some (x,n,2)∧l.drop n = e::d∧e.toNat = 92∧AP d = some (x',5,2)∧CZ (a::l) = some (b,n+7))
theorem EH (d:Nat) (a c:UInt8) (l:List UInt8) (hr:AP (c::l) = A9 d l) (ht:CZ (a::c::l) = BI d (a::c::l)):Gj a (c::l):=by
 unfold Gj;rw [hr,ht];unfold A9 BI;simp only [List.length_cons]
 by_cases h1:l.length < d
 ·rw [if_pos h1,if_pos (by omega)]; exact .inl ⟨rfl,rfl⟩
 ·rw [if_neg h1,if_neg (by omega)];have e1:(a::c::l).drop 2 = l:=rfl;rw [e1]
  rcases hv:As 0 (l.take d) with _ | v
  ·exact .inl ⟨rfl,rfl⟩
  ·simp only
   by_cases h2:1114111 < v
   ·rw [if_pos h2,if_pos (.inl h2)]; exact .inr (.inr (.inl ⟨_,_,rfl,rfl⟩))
   ·rw [if_neg h2]
    by_cases h3:Bp v = false
    ·have:=(EL v).1 h3;rw [if_pos h3,if_neg (by omega)];exact .inr (.inl ⟨_,_,rfl,by rw [show 1+d+1 = d+2 by omega]⟩)
    ·have h3':55296≤v∧v < 57344:=by
      rcases Classical.em (55296≤v∧v < 57344) with h | h
      ·exact h
      ·exact absurd ((EL v).2 h) h3
     rw [if_neg h3,if_pos (.inr h3')]
     by_cases h5:l.length+1+1 < d+8
     ·rw [if_pos h5]; exact .inr (.inr (.inl ⟨_,_,rfl,rfl⟩))
     ·rw [if_neg h5]
      rcases hu:As 0 (((a::c::l).drop (d+4)).take 4) with _ | u
      ·exact .inr (.inr (.inl ⟨_,_,rfl,rfl⟩))
      ·simp only
       split
       ·rename_i h6
        obtain ⟨k1,k2,k3⟩:=h6;refine .inr (.inr (.inr ⟨_,_,_,l.drop (d+1),l[d]'(by omega),[],rfl,?_,?_,?_,by rw [show 1+d+7 = d+8 by omega]⟩))
        ·rw [Nat.add_comm 1 d,List.drop_succ_cons,List.drop_eq_getElem_cons (by omega)]
        ·have:(a::c::l).getD (d+2) 0 = l[d]'(by omega):=by simp [List.getD_eq_getElem?_getD,List.getElem?_eq_getElem (show d < l.length by omega)]
         rw [this] at k1; exact k1
        ·have e2:(a::c::l).getD (d+3) 0 = l[d+1]'(by omega):=by simp [List.getD_eq_getElem?_getD,List.getElem?_eq_getElem (show d+1 < l.length by omega)]
         rw [e2] at k2;rw [List.drop_eq_getElem_cons (by omega),Bl,k2,if_neg (by decide)]
         have ho:Ai (l[d+1]'(by omega)) = false:=by unfold Ai; simp; omega
         rw [ho,if_neg (by simp),if_neg (by decide),if_pos rfl]
         have e3:(a::c::l).drop (d+4) = l.drop (d+1+1):=by rw [show d+4 = (d+1+1)+2 by omega]; try rfl
         rw [e3] at hu;unfold A9;rw [if_neg (by simp; omega),hu];simp only
         have hu2:55296≤u∧u < 57344:=by
          unfold AU at k3
          split at k3
          ·omega
          ·exact absurd rfl k3
         rw [if_pos (.inr hu2)]
       ·exact .inr (.inr (.inl ⟨_,_,rfl,rfl⟩))
theorem GS (a:UInt8) (l:List UInt8):Gj a l:=by
 cases l with
 | nil=>exact .inl ⟨rfl,rfl⟩
 | cons c l=>
  have hr:=Bl c l;have ht:=AF a c l
  by_cases h1:A5 c.toNat≠0
  ·rw [if_pos h1] at hr ht;exact .inr (.inl ⟨_,_,hr,ht⟩)
  ·rw [if_neg h1] at hr ht
   by_cases h2:Ai c = true
   ·rw [if_pos h2] at hr ht;unfold Fi at hr;unfold Fg at ht
    split at hr
    ·rename_i h
     rw [if_pos h] at ht;exact .inr (.inr (.inl ⟨_,_,hr,ht⟩))
    ·rename_i h
     rw [if_neg h] at ht;exact .inr (.inl ⟨_,_,hr,by rw [ht,Nat.add_comm]⟩)
   ·rw [if_neg h2] at hr ht
    by_cases h3:c.toNat = 120
    ·rw [if_pos h3] at hr ht;unfold De at hr;unfold Cm at ht
     by_cases h4:Au Aq l = 0
     ·rw [if_pos h4] at hr ht;exact .inr (.inr (.inl ⟨_,_,hr,ht⟩))
     ·rw [if_neg h4] at hr ht;obtain ⟨v,hv⟩:=hexT2_R l;rw [hv] at hr ht;exact .inr (.inl ⟨_,_,hr,by rw [ht,show 1+min 2 (Au Aq l)+1 = 2+min 2 (Au Aq l) by omega]; try rfl⟩)
    ·rw [if_neg h3] at hr ht
     by_cases h4:c.toNat = 117
     ·rw [if_pos h4] at hr ht;exact EH 4 a c l hr ht
     ·rw [if_neg h4] at hr ht
      by_cases h5:c.toNat = 85
      ·rw [if_pos h5] at hr ht;exact EH 8 a c l hr ht
      ·rw [if_neg h5] at hr ht
       by_cases h6:c.toNat = 88∨c.toNat = 10
       ·rw [if_pos h6] at hr;exact .inr (.inr (.inl ⟨_,_,hr,ht⟩))
       ·rw [if_neg h6] at hr;exact .inl ⟨hr,ht⟩
theorem C7 (q:Nat) (whole:List UInt8):∀ (f:Nat) (l out:List UInt8),(Bq q whole f l out 2).2.1≠1
 | 0,_,_=>by simp [Bq]
 | f+1,[],_=>by simp [Bq]
 | f+1,c::l,out=>by
  unfold Bq
  split
  ·simp only
   split <;> simp
  ·split
   ·simp
   ·split
    ·rcases he:AP l with _ | ⟨x,n,ok⟩
     ·simp
     ·have:=Bk he;simp only;rw [show max 2 ok = 2 by omega];exact C7 q whole f _ _
    ·have:(if DU c then 2 else 2) = 2:=by split <;> rfl
     rw [this];exact C7 q whole f _ _
theorem Dq (q:Nat) (whole:List UInt8):∀ (f:Nat) (l out:List UInt8) (told:Nat),told≤2→(Bq q whole f l out told).2.1≤2
 | 0,_,_,_,_=>by simp [Bq]
 | f+1,[],_,_,_=>by simp [Bq]
 | f+1,c::l,out,told,h=>by
  unfold Bq
  split
  ·simp only
   split <;> omega
  ·split
   ·simp
   ·split
    ·rcases he:AP l with _ | ⟨x,n,ok⟩
     ·simp
     ·have:=Bk he;exact Dq q whole f _ _ _ (by omega)
    ·exact Dq q whole f _ _ _ (by split <;> omega)
theorem EO (q:Nat) (whole:List UInt8):∀ (f:Nat) (pre l out:List UInt8) (told:Nat),whole = pre++l→(Bq q whole f l out told).2.1 = 1→∃ j,1≤j∧j≤l.length∧Bc (pre++l.take j) = true
 | 0,_,_,_,_,_,h=>by simp [Bq] at h
 | f+1,_,[],_,_,_,h=>by simp [Bq] at h
 | f+1,pre,c::l,out,told,hw,h=>by
  have step:∀ (m:Nat) (out':List UInt8) (told':Nat),m≤l.length→(Bq q whole f (l.drop m) out' told').2.1 = 1→∃ j,1≤j∧j≤(c::l).length∧Bc (pre++(c::l).take j) = true:=by
   intro m out' told' hm h';obtain ⟨j,h1,h2,h3⟩:=EO q whole f (pre++(c::l).take (m+1)) (l.drop m) out' told' (by rw [hw,List.append_assoc]; congr 1; rw [List.take_succ_cons,List.cons_append,List.take_append_drop]) h';refine ⟨m+1+j,by omega,by simp at h2 ⊢; omega,?_⟩;rw [List.append_assoc] at h3;rw [List.take_add];exact h3
  unfold Bq at h
  split at h
  ·simp only at h;refine ⟨1,Nat.le_refl _,by simp,?_⟩
   have e:whole.take (whole.length - l.length) = pre++(c::l).take 1:=by
    have:whole = (pre++[c])++l:=by rw [hw]; simp
    rw [this]
    have e2:((pre++[c])++l).length - l.length = (pre++[c]).length:=by simp; omega
    rw [e2,List.take_left']
    ·simp
    ·rfl
   rw [e] at h
   split at h
   ·assumption
   ·cases h
  ·split at h
   ·cases h
   ·split at h
    ·rcases he:AP l with _ | ⟨x,n,ok⟩
     ·rw [he] at h; cases h
     ·rw [he] at h;exact step n _ _ (Bk he).1 h
    ·exact step 0 _ _ (Nat.zero_le _) h
theorem u8_val {c:UInt8} {l:List UInt8} {v n:Nat} (h:An (c::l) = some (v,n)) (hc:128≤c.toNat):128≤v:=by
 rw [Af,if_neg (by omega)] at h
 rcases hh:Ar c.toNat with _ | ⟨k,least,first⟩
 ·rw [hh] at h; cases h
 ·rw [hh] at h;simp only at h;have hk:=BA hh
  rcases ht:Ae k first l with _ | v'
  ·rw [ht] at h; cases h
  ·rw [ht] at h;simp only at h
   split at h
   ·rename_i ho
    unfold Co at ho;simp at ho;cases h;omega
   ·cases h
theorem u8_high {c:UInt8} {l:List UInt8} {v n:Nat} (h:An (c::l) = some (v,n)) (hc:128≤c.toNat):∀ b ∈ (c::l).take n,128≤b.toNat:=by
 have take:∀ (k a v:Nat) (l:List UInt8),Ae k a l = some v→∀ b ∈ l.take k,128≤b.toNat:=by
  intro k
  induction k with
  | zero=>intro a v l _ b hb; simp at hb
  | succ k ih=>
   intro a v l h b hb
   cases l with
   | nil=>simp at hb
   | cons d l=>
    unfold Ae at h
    split at h
    ·rename_i hd
     rw [List.take_succ_cons,List.mem_cons] at hb
     rcases hb with rfl | hb
     ·unfold BW at hd; simp at hd; omega
     ·exact ih _ _ _ h b hb
    ·cases h
 rw [Af,if_neg (by omega)] at h
 rcases hh:Ar c.toNat with _ | ⟨k,least,first⟩
 ·rw [hh] at h; cases h
 ·rw [hh] at h;simp only at h
  rcases ht:Ae k first l with _ | v'
  ·rw [ht] at h; cases h
  ·rw [ht] at h;simp only at h
   split at h
   ·injection h with h
    injection h with _ h
    subst h;intro b hb;rw [List.take_succ_cons,List.mem_cons] at hb
    rcases hb with rfl | hb
    ·exact hc
    ·exact take k _ _ _ ht b hb
   ·cases h
theorem EN {q:Nat} (hq:q < 128) {whole:List UInt8}:∀ (x l out:List UInt8) (told:Nat),(∀ b ∈ x,128≤b.toNat)→A8 q whole (x++l) out told = A8 q whole l (out++x) told
 | [],l,out,told,_=>by simp
 | c::x,l,out,told,h=>by
  have hc:=h c (by simp)
  have hk:DU c = false:=by unfold DU; simp; omega
  rw [List.cons_append,BC,if_neg (by omega),if_neg (by omega),if_neg (by omega),hk,if_neg (by simp),EN hq x l _ _ (fun b hb=>h b (by simp [hb]))];simp
def RelT (R:List UInt8 × Nat × Nat) (y:Option (List UInt8 × Nat)):Prop:=R.2.1 = 2∨(R.2.1 = 1∧y = some (R.1,R.2.2))∨(R.2.1 = 0∧y = none)
theorem RelT.open {q:Nat} {whole l out:List UInt8} {told:Nat} (h:told≤2) (h1:(A8 q whole l out told).2.1≠1):RelT (A8 q whole l out told) none:=by
 have:=Dq q whole l.length l out told h;unfold A8 at h1
 rcases (show (Bq q whole l.length l out told).2.1 = 2∨(Bq q whole l.length l out told).2.1 = 0 by omega) with h2 | h2
 ·exact .inl h2
 ·exact .inr (.inr ⟨h2,rfl⟩)
theorem Cv (q:Nat) (hq:q = 34∨q = 39) (whole:List UInt8):∀ (f:Nat) (pre l out out':List UInt8) (told:Nat),l.length≤f→whole = pre++l→Bv pre→(told = 1∧out = out'∨told = 2)→RelT (A8 q whole l out told) (Ak q l out')
 | _,_,[],_,_,_,_,_,_,_=>.inr (.inr ⟨rfl,rfl⟩)
 | 0,_,c::l,_,_,_,h,_,_,_=>by simp at h
 | f+1,pre,c::l,out,out',told,hf,hw,hn,ht=>by
  simp only [List.length_cons] at hf
  have ht2:told≤2:=by omega
  rcases hu:An (c::l) with _ | ⟨v,n⟩
  ·rw [Dn hu];refine RelT.open ht2 fun h1=>?_;obtain ⟨j,j1,j2,j3⟩:=EO q whole _ pre (c::l) out told hw h1;rw [hn] at j3
   have hne:(c::l).take j≠[]:=by
    intro e;have:=congrArg List.length e;simp at this; omega
   rcases hx:An ((c::l).take j) with _ | ⟨v,m⟩
   ·rw [D5 hne hx] at j3; cases j3
   ·have:=Ct (r:=((c::l).take j).drop m++(c::l).drop j) hx;rw [←List.append_assoc,List.take_append_drop,List.take_append_drop,hu] at this;cases this
  ·have hs:=At hu;rw [BJ hu]
   by_cases hc:c.toNat < 128
   ·have hu':=hu;rw [Af,if_pos hc] at hu'
    injection hu' with hu'
    injection hu' with hv h1
    subst hv h1;rw [BC];have hn1:Bv (pre++[c]):=Ci hn hu
    have hw1:whole = (pre++[c])++l:=by rw [hw]; simp
    by_cases h0:c.toNat = 0
    ·rw [if_pos (show c.toNat = 0∨c.toNat = 10 from .inl h0),if_neg (show ¬ c.toNat = q by omega),if_neg (show ¬ c.toNat = 10 by omega),if_neg (show ¬ c.toNat = 92 by omega)]
     have:DU c = true:=by unfold DU; simp; omega
     rw [this,if_pos rfl];exact RelT.open (Nat.le_refl _) (C7 q whole _ _ _)
    ·by_cases h10:c.toNat = 10
     ·rw [if_pos (show c.toNat = 0∨c.toNat = 10 from .inr h10),if_neg (show ¬ c.toNat = q by omega),if_pos h10];exact .inr (.inr ⟨rfl,rfl⟩)
     ·rw [if_neg (show ¬ (c.toNat = 0∨c.toNat = 10) by omega)]
      by_cases hcq:c.toNat = q
      ·rw [if_pos hcq,if_pos hcq]
       have e:whole.take (whole.length - l.length) = pre++[c]:=by
        rw [hw1]
        have e2:((pre++[c])++l).length - l.length = (pre++[c]).length:=by simp; omega
        rw [e2,List.take_left']
        try rfl
       have hut:Bc (pre++[c]) = true:=by
        have:=hn1 [];rw [List.append_nil] at this
        rw [this]; try rfl
       rw [e,hut,if_pos rfl]
       rcases ht with ⟨rfl,rfl⟩ | rfl
       ·exact .inr (.inl ⟨rfl,by simp⟩)
       ·exact .inl rfl
      ·rw [if_neg hcq,if_neg hcq,if_neg h10]
       by_cases h92:c.toNat = 92
       ·rw [if_pos h92,if_pos h92];have hes:∀ {l x:List UInt8} {n ok:Nat} {pre:List UInt8},Bv (pre++[c])→AP l = some (x,n,ok)→Bv (pre++[c]++l.take n):=fun h he=>BE h _ (DK he)
        rcases GS c l with ⟨h1,h2⟩ | ⟨x,n,h1,h2⟩ | ⟨x,n,h1,h2⟩ | ⟨x,n,b,d,e,x',h1,h3,h4,h5,h2⟩
        ·rw [h1,h2]; exact .inr (.inr ⟨rfl,rfl⟩)
        ·rw [h1,h2];have hz:=Bk h1;simp only [List.drop_succ_cons];refine Cv q hq whole f _ (l.drop n) _ _ _ (by simp; omega) ?_ (hes hn1 h1) ?_
         ·rw [hw1,List.append_assoc (pre++[c]),List.take_append_drop]
         ·rcases ht with ⟨rfl,rfl⟩ | rfl
          ·exact .inl ⟨rfl,rfl⟩
          ·exact .inr rfl
        ·rw [h1,h2];simp only;rw [show max told 2 = 2 by omega];exact RelT.open (Nat.le_refl _) (C7 q whole _ _ _)
        ·rw [h1,h2];have hz:=Bk h1;have hz2:=Bk h5
         have hld:l.length = n+1+d.length:=by have:=congrArg List.length h3; simp at this; omega
         simp only [List.drop_succ_cons];rw [show max told 2 = 2 by omega,h3,BC,if_neg (by omega),if_neg (by omega),if_pos h4,h5];simp only;rw [show max 2 2 = 2 by rfl]
         have e1:l.drop (n+6) = d.drop 5:=by rw [show n+6 = n+6 from rfl,←List.drop_drop,h3]; try rfl
         rw [e1];have hn2:Bv (pre++[c]++l.take n++[e]):=BE (hes hn1 h1) [e] (by intro b hb; simp at hb; subst hb; omega);refine Cv q hq whole f (pre++[c]++l.take n++[e]++d.take 5) (d.drop 5) _ _ _ (by simp; omega) ?_ (BE hn2 _ (DK h5)) (.inr rfl);rw [hw1]
         conv=>lhs; rw [←List.take_append_drop n l,h3]
         simp
       ·rw [if_neg h92,if_neg h92];simp only [List.drop_succ_cons,List.drop_zero,List.take_succ_cons,List.take_zero];refine Cv q hq whole f _ l _ _ _ (by omega) hw1 hn1 ?_
        rcases ht with ⟨rfl,rfl⟩ | rfl
        ·split
         ·exact .inr rfl
         ·exact .inl ⟨rfl,rfl⟩
        ·exact .inr (by split <;> rfl)
   ·have hv:=u8_val hu (by omega);rw [if_neg (by omega),if_neg (by omega),if_neg (by omega)];have hh:=u8_high hu (by omega);have e:=EN (q:=q) (by omega) (whole:=whole) ((c::l).take n) ((c::l).drop n) out told hh;rw [List.take_append_drop] at e;rw [e];refine Cv q hq whole f _ ((c::l).drop n) _ _ _ (by simp; omega) ?_ (Ci hn hu) ?_
    ·rw [hw,List.append_assoc,List.take_append_drop]
    ·rcases ht with ⟨rfl,rfl⟩ | rfl
     ·exact .inl ⟨rfl,rfl⟩
     ·exact .inr rfl
theorem E6 (s:List UInt8):(Cw s).2 = 2∨((Cw s).2 = 1∧DM s = some (Cw s).1)∨((Cw s).2 = 0∧DM s = none):=by
 cases s with
 | nil=>exact .inr (.inr ⟨rfl,rfl⟩)
 | cons c r=>
  show (CL c r).2 = 2∨((CL c r).2 = 1∧(match Ak c.toNat r [] with
   | none=>none
   | some (s,_)=>some s) = some (CL c r).1)∨((CL c r).2 = 0∧(match Ak c.toNat r [] with
   | none=>none
   | some (s,_)=>some s) = none)
  unfold CL
  by_cases hq:c.toNat≠34∧c.toNat≠39
  ·rw [if_pos hq]; exact .inl rfl
  ·rw [if_neg hq];have hn:Bv [c]:=Ci (pre:=[]) (l:=[c]) (fun x=>rfl) (c:=c.toNat) (n:=1) (by rw [Af,if_pos (by omega)]);have h:=Cv c.toNat (by omega) (c::r) r.length [c] r [] [] 1 (Nat.le_refl _) rfl hn (.inl ⟨rfl,rfl⟩);unfold A8 at h
   rcases hR:Bq c.toNat (c::r) r.length r [] 1 with ⟨o,t,m⟩
   rw [hR] at h;unfold RelT at h;simp only at h ⊢
   rcases h with rfl | ⟨rfl,h⟩ | ⟨rfl,h⟩
   ·exact .inl rfl
   ·rw [h,if_neg (by simp)]
    split
    ·exact .inl rfl
    ·exact .inr (.inl ⟨rfl,rfl⟩)
   ·rw [h,if_pos (by simp)];exact .inr (.inr ⟨rfl,rfl⟩)
end
end Go.Proofs.YtgdnpnipahegaaaDoor
