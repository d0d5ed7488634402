/-
 The law FnTextUnquotes, walked: the package's unquote; what the law makes of both.
-/
import Derived.Test.YtgdnpnipahegaaaDoorQ8
import Derived.Test.YtgdnpnipahegaaaDoorTString
import Derived.Test.YtgdnpnipahegaaaDoorCards
import Derived.Test.YtgdnpnipahegaaaDoorTie
import Derived.Test.YtgdnpnipahegaaaDoorQ5
import Derived.ProofKit
import Derived.OpenShut
import Derived.LaidMore
import Derived.LaidLaws
import Derived.Lay
import Derived.SevenTiedAt
import Derived.Stop.Joined
import Derived.Stop.LaidErr
import Derived.PinnedBridge
import Derived.Lib.LaidU8T
namespace Go.Proofs.YtgdnpnipahegaaaDoor
open Go.ChangeShapes Go.WideShapes Go.ChangeAt Go.RowKit
section
section
variable {B p g:Nat} {bs:List UInt8} {vr ve vst vo vi:Value}
set_option maxRecDepth 100000 in
theorem DP (s:DT) (w:World) (h:DW B p g bs vr ve vst vo vi s w) (hd:bs.drop s.k = []) :
  Calls Tryd.prog 14 #[.pointer (some ⟨p,0,none⟩)] w fun e w'=>(∃ te x,e = .returned (.tuple #[.string ⟨#[]⟩,.iface te x]))∧Below w.heap.size w w':=by
 have hv:=h.inn;rw [hd] at hv;obtain ⟨ao,c,rfl⟩:=hv.slice;obtain ⟨c10,_⟩:=h.c10;obtain ⟨te,x,hc⟩:=h.glob.eof;clear h hv hd;simp only [List.length_nil] at c10
 go_enter Tryd.func14,Tryd.ntmps14
 go_wp2_with fail
 go_quiet (fail)
 go_wp2_with fail
 go_ret2
 exact ⟨⟨te,x,rfl⟩,(Below.refl _ _).trans ⟨rfl,rfl,rfl,Nat.le_refl _,fun _ _=>rfl⟩⟩
end
def UnqResB (B:Nat) (o:Option (List UInt8)) (w:World) (e:Ending) (w':World):Prop:=Below B w w'∧match o with
 | some t=>e = .returned (.tuple #[.string ⟨t.toArray⟩,.nilIface])
 | none=>∃ te x,e = .returned (.tuple #[.string ⟨#[]⟩,.iface te x])
theorem GM (l:List UInt8) (hm:l.length≤1000000) (hq:∀ c r,l = c::r→c.toNat = 34∨c.toNat = 39) (B p g:Nat) (v:Value) (W:World) (h:DW B p g l (.slice none 0 0) .nilIface (.slice none 0 0) v v DT.new W) (hp:p < W.heap.size) (hB:B≤p) :
  Calls Tryd.prog 14 #[.pointer (some ⟨p,0,none⟩)] W (UnqResB B (DM l) W):=by
 rcases l with _ | ⟨c,r⟩
 ·exact (DP _ W h rfl).mono fun e w' hh=>⟨hh.2.mono (by omega),hh.1⟩
 ·refine (DQ DT.new W h hp c r rfl (hq c r rfl) (by omega)).mono fun e w' hh=>?_
  rcases hs:Ak c.toNat r [] with _ | ⟨t,m⟩
  ·have e1:DM (c::r) = none:=by simp only [DM,hs]
   rw [hs] at hh;rw [e1];exact ⟨hh.2.mono (by omega),hh.1⟩
  ·have e1:DM (c::r) = some t:=by simp only [DM,hs]
   rw [hs] at hh;rw [e1];obtain ⟨h1,vi',_,h3⟩:=hh;exact ⟨⟨h3.os,h3.tape,h3.output,h3.size,fun k hk=>h3.block k (by omega) (fun e=>by injection e with e; omega)⟩,h1⟩
def UnqRes (o:Option (List UInt8)) (w:World) (e:Ending) (w':World):Prop:=Below w.heap.size w w'∧match o with
 | some t=>e = .returned (.tuple #[.string ⟨t.toArray⟩,.nilIface])
 | none=>∃ te x,e = .returned (.tuple #[.string ⟨#[]⟩,.iface te x])
def UnqImpl (o:Option (List UInt8)) (w:World) (e:Ending) (w':World):Prop:=Below w.heap.size w w'∧match o with
 | some t=>e = .returned (.tuple #[.string ⟨t.toArray⟩,.bool true])
 | none=>e = .returned (.tuple #[.string ⟨#[]⟩,.bool false])
theorem UnqRes.no {o:Option (List UInt8)} {w w':World} (h:o = none) (te:TypeId) (x:Value) (hb:Below w.heap.size w w'):UnqRes o w (.returned (.tuple #[.string ⟨#[]⟩,.iface te x])) w':=by rw [h]; exact ⟨hb,te,x,rfl⟩
theorem UnqRes.yes {o:Option (List UInt8)} {t:List UInt8} {w w':World} (h:o = some t) (hb:Below w.heap.size w w'):UnqRes o w (.returned (.tuple #[.string ⟨t.toArray⟩,.nilIface])) w':=by rw [h]; exact ⟨hb,rfl⟩
theorem UnqImpl.no {o:Option (List UInt8)} {w w':World} (h:o = none) (hb:Below w.heap.size w w'):UnqImpl o w (.returned (.tuple #[.string ⟨#[]⟩,.bool false])) w':=by rw [h]; exact ⟨hb,rfl⟩
theorem UnqImpl.yes {o:Option (List UInt8)} {t:List UInt8} {w w':World} (h:o = some t) (hb:Below w.heap.size w w'):UnqImpl o w (.returned (.tuple #[.string ⟨t.toArray⟩,.bool true])) w':=by rw [h]; exact ⟨hb,rfl⟩
set_option maxRecDepth 100000 in
theorem Ez (l:List UInt8) (w:World) (hg:Glob w) (h9:9≤w.heap.size) (hm:l.length≤1000000) (hq:∀ c r,l = c::r→c.toNat = 34∨c.toNat = 39) :
  Calls Tryd.prog 9 #[.string ⟨l.toArray⟩] w (UnqRes (DM l) w):=by
 have HG:=hid hg
 have hml:l.length≤maxLen:=by unfold maxLen; omega
 have HP:=hid (GM l hm hq);clear hg
 go_enter Tryd.func9,Tryd.ntmps9
 go_upto_region 2 with (first
  | (refine B4 _ rfl _ 9 27 5 rfl Tryd.underlying9 Tryd.underlying27 Tryd.underlying5 l rfl hml ?_; intro cap1 w1 hv1 hs1 hb1; have HV1:=hid hv1; have HB1:=hid hb1; have HS1:=hid hs1; clear hv1 hb1 hs1)
  | (go_at_call 13; refine (Calls.mono (Ek _ _ _ _ HV1.out (by have:=HS1.out; omega) (HG.out.below HB1.out) (by have:=HS1.out; omega)) ?_); rintro e w2 ⟨rfl,hd2,hb2⟩; have HD2:=hid hd2; have HB2:=hid hb2; clear hd2 hb2)
  | fail)
 rcases ho:DM l with _ | t
 ·rw [ho] at HP;have HO:=hid ho;clear ho
  go_wp2_with (first
   | (go_at_call 14; refine (Calls.mono (HP.out _ _ _ _ _ HD2.out HD2.out.lt (Nat.le_refl _)) ?_); rintro e w3 ⟨hb3,te,x,rfl⟩; have HB3:=hid hb3; clear hb3)
   | fail)
  go_ret2
  exact .no HO.out te x (HB1.out.trans (HB2.out.mono (by have:=HS1.out; omega) |>.trans (HB3.out.mono (by have:=HS1.out; omega))))
 ·rw [ho] at HP;have HO:=hid ho;clear ho
  go_wp2_with (first
   | (go_at_call 14; refine (Calls.mono (HP.out _ _ _ _ _ HD2.out HD2.out.lt (Nat.le_refl _)) ?_); rintro e w3 ⟨hb3,rfl⟩; have HB3:=hid hb3; clear hb3)
   | fail)
  go_ret2
  exact .yes HO.out (HB1.out.trans (HB2.out.mono (by have:=HS1.out; omega) |>.trans (HB3.out.mono (by have:=HS1.out; omega))))
theorem Cl (l:List UInt8) (w:World) (hg:Glob w) (h9:9≤w.heap.size) (hm:l.length≤1000000) (hq:∀ c r,l = c::r→c.toNat = 34∨c.toNat = 39) :
  Calls Tryd.prog 6 #[.string ⟨l.toArray⟩] w (UnqImpl (DM l) w):=by
 have HU:=hid (Ez l w hg h9 hm hq);clear hg hq
 rcases ho:DM l with _ | t
 ·rw [ho] at HU;clear ho
  go_enter Tryd.func6,Tryd.ntmps6
  go_wp2_with (first
   | (go_at_call 9; refine (Calls.mono HU.out ?_); rintro e w3 ⟨hb3,te,x,rfl⟩; have HB3:=hid hb3; clear hb3)
   | fail)
  go_ret2
  exact .no rfl HB3.out
 ·rw [ho] at HU;clear ho
  go_enter Tryd.func6,Tryd.ntmps6
  go_wp2_with (first
   | (go_at_call 9; refine (Calls.mono HU.out ?_); rintro e w3 ⟨hb3,rfl⟩; have HB3:=hid hb3; clear hb3)
   | fail)
  go_ret2
  exact .yes rfl HB3.out
theorem F2 {l:List UInt8} (h:(Cw l).2≠2):∀ c r,l = c::r→c.toNat = 34∨c.toNat = 39:=by
 rintro c r rfl
 by_cases hq:c.toNat≠34∧c.toNat≠39
 ·exfalso
  apply h
  show (CL c r).2 = 2
  rw [Ee,if_pos hq]
 ·omega
def D1 (w:World) (e:Ending) (w':World):Prop:=e = .returned (.bool true)∧Below w.heap.size w w'
set_option maxRecDepth 100000 in
theorem CW (l:List UInt8) (w:World) (hg:Glob w) (h9:9≤w.heap.size):Calls Tryd.prog 3 #[.string ⟨l.toArray⟩] w (D1 w):=by
 have hsz:=Am l;have HG:=hid hg;clear hg
 by_cases hm:l.length≤2000
 ·have hmI:(l.length:Int)≤2000:=by omega
  have HR:=hid (Dl l w (by omega));have HS:=E6 l;have HU:=fun (h:(Cw l).2≠2) (W:World) (hb:Below w.heap.size w W)=>Cl l W (HG.out.below hb) (Nat.le_trans h9 hb.size) (by omega) (F2 h);unfold UnqR at HR
  rcases HS with h2 | ⟨h1,hu⟩ | ⟨h0,hu⟩
  ·rw [h2] at HR;clear HU h2
   go_enter Tryd.func3,Tryd.ntmps3
   go_wp2_with (first
    | (go_at_call 5; refine (Calls.mono HR.out ?_); rintro e w1 ⟨rfl,hb1⟩; have HB1:=hid hb1; clear hb1)
    | fail)
   go_ret
   exact ⟨rfl,HB1.out⟩
  ·have HU:=hid (HU (by omega));rw [h1] at HR;rw [hu] at HU;generalize (Cw l).1 = t at *;clear h1 hu
   go_enter Tryd.func3,Tryd.ntmps3
   go_wp2_with (first
    | (go_at_call 5; refine (Calls.mono HR.out ?_); rintro e w1 ⟨rfl,hb1⟩; have HB1:=hid hb1; clear hb1)
    | (go_at_call 6; refine (Calls.mono (HU.out _ HB1.out) ?_); rintro e w2 ⟨hb2,rfl⟩; have HB2:=hid (HB1.out.trans (hb2.mono HB1.out.size)); clear hb2)
    | fail)
   go_ret
   exact ⟨rfl,HB2.out⟩
  ·have HU:=hid (HU (by omega));rw [h0] at HR;rw [hu] at HU;generalize (Cw l).1 = t at *;clear h0 hu
   go_enter Tryd.func3,Tryd.ntmps3
   go_wp2_with (first
    | (go_at_call 5; refine (Calls.mono HR.out ?_); rintro e w1 ⟨rfl,hb1⟩; have HB1:=hid hb1; clear hb1)
    | (go_at_call 6; refine (Calls.mono (HU.out _ HB1.out) ?_); rintro e w2 ⟨hb2,rfl⟩; have HB2:=hid (HB1.out.trans (hb2.mono HB1.out.size)); clear hb2)
    | fail)
   go_ret
   exact ⟨rfl,HB2.out⟩
 ·have hmI:¬ (l.length:Int)≤2000:=by omega
  go_enter Tryd.func3,Tryd.ntmps3
  go_wp2_with fail
  all_goals
   go_ret
   exact ⟨rfl,Below.refl _ _⟩
theorem CX (s:ByteArray) (w:World) (hg:Glob w) (h9:9≤w.heap.size):Calls Tryd.prog 3 #[.string s] w (D1 w):=by
 have:=CW s.data.toList w hg h9;rwa [show (⟨s.data.toList.toArray⟩:ByteArray) = s by simp] at this
end
section
def G0:Go.Shelf.Ren:=⟨fun n=>n,fun | 5=>5 | 119=>82 | 138=>84 | 139=>85 | n=>n,fun | 3=>1 | 4=>2 | n=>n⟩
theorem G2:U8Types Tryd.prog G0:=⟨by kernel_rfl,by kernel_rfl,by kernel_rfl,by kernel_rfl⟩
theorem G3:U8Extra Tryd.prog G0:=⟨by kernel_rfl,by kernel_rfl,by kernel_rfl,by kernel_rfl,by kernel_rfl,by kernel_rfl,by kernel_rfl⟩
theorem acc_eq:(Rows.laid_unicode_utf8_acceptRanges:DataW Unit) = Lib.acceptData:=by kernel_rfl
def HJ:List Int:=[0,1,56,2,57,49,28,3,61,58,42,50,38,29,17,4,62,47,59,36,45,43,51,22,53,39,33,30,24,18,12,5,63,55,48,27,60,41,37,16,46,35,44,21,52,32,23,11,54,26,40,15,34,20,31,10,25,14,19,9,13,8,7,6]
theorem GW:(Rows.laid_math_bits_deBruijn64tab:DataW Unit) = Lib.tabData .u8 HJ:=by kernel_rfl
theorem FU : "*" ++ "errors.errorString" = "*errors.errorString" := by decide
theorem err_row (u : TypeId) (h : Tryd.prog.typeName? 3 u = some "*errors.errorString") : u = 114 :=
 typeName_ptr_named (nm := "errors.errorString") (by rw [FU]; kernel_rfl) (by kernel_rfl) (by decide) u (by rw [FU]; exact h)
theorem DC {n : String} {text : List UInt8} {r : List (String × DataW Unit)} {W : World} {g : Nat} (h : laidMet Tryd.prog ((n, .iface "*errors.errorString" (.ptr (.agg [.lit (.string text)]))) :: r) W)
  (hg:Tryd.prog.globalNamed n = some g) (ht:(Tryd.prog.globals[g]?).map (·.type) = some 36):ErrVar g W:=by
 obtain ⟨a,s,hv,_⟩:=laid_sentinel h hg ht Tryd.underlying36 err_row Tryd.underlying114 Tryd.underlying116 rfl rfl Tryd.underlying9 (by kernel_rfl) (by kernel_rfl);have:=World.var?_cell hg hv 0;exact ⟨_,_,by simpa using this⟩
structure Glob9 (w:World):Prop where
 glob:Glob w
 size:9≤w.heap.size
 bits:w.cell? ⟨8,15,none⟩ = some (.int .u8 4)
theorem Cb {W:World} (h:laidMetH Tryd.prog Rows.fnTextUnquotesRow.laid W):Glob9 W:=by
 rw [MakeChecks.laidMetH_plain _ _ _ (by kernel_rfl)] at h;have h' : laidMet Tryd.prog [("math/bits.deBruijn32tab", Rows.laid_math_bits_deBruijn32tab), ("math/bits.deBruijn64tab", Rows.laid_math_bits_deBruijn64tab), ("internal/strconv.uint64pow10", Rows.laid_internal_strconv_uint64pow10), ("unicode/utf8.acceptRanges", Rows.laid_unicode_utf8_acceptRanges), ("strconv.ErrRange", Rows.laid_strconv_ErrRange), ("strconv.ErrSyntax", Rows.laid_strconv_ErrSyntax), ("pub-codicil/pub/protobuf/inner/encoding/text.ErrUnexpectedEOF", Rows.laid_pub_codicil_pub_protobuf_inner_encoding_text_ErrUnexpectedEOF), ("unicode/utf8.first", Rows.laid_unicode_utf8_first)] W := h;rw [acc_eq, GW] at h';have h4 := h'.tail.tail.tail.tail;have e4 : ErrVar 4 W := DC h4 (by kernel_rfl) (by kernel_rfl);have e3 : ErrVar 3 W := DC h4.tail (by kernel_rfl) (by kernel_rfl);have e0 : ErrVar 0 W := DC h4.tail.tail (by kernel_rfl) (by kernel_rfl)
 have hb:W.cell? ⟨8,15,none⟩ = some (.int .u8 4):=by
  obtain ⟨g, t, cs, fuel, p, hg, hty, hvar, hd⟩ := Lib.laidMet.reads h' (n := "math/bits.deBruijn64tab") (d := Lib.tabData .u8 HJ) (.tail _ (.head _));obtain rfl := Option.some.inj ((show Tryd.prog.globalNamed "math/bits.deBruijn64tab" = some 8 by kernel_rfl).symm.trans hg);obtain rfl := Option.some.inj ((show (Tryd.prog.globals[8]?).map (·.type) = some 119 by kernel_rfl).symm.trans hty);have hcs := Lib.cells_of_tab Tryd.underlying119 Tryd.underlying5 (by kernel_rfl) (by kernel_rfl) hd;have := World.var?_cell hg hvar 15;rw [this, ← Array.getElem?_toList, hcs]
  try rfl
 refine ⟨⟨?_,e0,e3,e4⟩,?_,hb⟩
 ·exact utf8Tabs_of_readsT (ρ:=G0) G2 G3 (Pinned.utf8First_eq ▸ Lib.laidMet.reads h' (.tail _ (.tail _ (.tail _ (.tail _ (.tail _ (.tail _ (.tail _ (.head _))))))))) (Lib.laidMet.reads h' (.tail _ (.tail _ (.tail _ (.head _)))))
 ·exact World.block_lt_of_cell? W _ hb
end
end Go.Proofs.YtgdnpnipahegaaaDoor
