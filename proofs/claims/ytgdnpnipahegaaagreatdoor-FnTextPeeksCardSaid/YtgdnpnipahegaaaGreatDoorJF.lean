/-
 The thin package's two readings of the text form, walked: all tokens; with looking ahead.
-/
import Derived.Test.YtgdnpnipahegaaaGreatDoorTTRead
import Derived.Test.YtgdnpnipahegaaaGreatDoorTNew
import Derived.Deep.QuietTactic
import Derived.BigQuiet
import Derived.Test.YtgdnpnipahegaaaGreatDoorJA
import Derived.Lib.SlBytesConst
import Derived.Lib.SmallJoins
import Derived.Test.YtgdnpnipahegaaaGreatDoorTOutX
import Derived.Deep.Grids

namespace Go.Proofs.YtgdnpnipahegaaaGreatDoor
open Go.ChangeShapes Go.WideShapes Go.ChangeAt Go.RowKit

def Copied (bs : List UInt8) (w : World) (e : Ending) (w' : World) : Prop := ∃ v g, e = .returned v ∧ View w' g v bs ∧ w.heap.size ≤ g ∧ g < w'.heap.size ∧ Below w.heap.size w w'
theorem View.any {w : World} {g g' : Nat} {v : Value} (h : View w g v []) : View w g' v [] := by
 obtain ⟨ao, cap, hv, h1, h2, hn0, off, h3, h4⟩ := h
 exact ⟨ao, cap, hv, h1, h2, hn0, off, fun h => absurd rfl h, fun j hj => by simp at hj⟩
set_option maxRecDepth 100000 in
theorem copied_any (v : Value) (bs : List UInt8) (g : Nat) (w : World) (hv : View w g v bs) (hm : bs.length ≤ 100000000) :
  Calls Tryz.prog 14 #[v] w (Copied bs w) := by
 have hb0 := (Below.refl w.heap.size w).alloc (Nat.le_refl _) (.cells #[] 5)
 have hv1 := hv.alloc (.cells #[] 5)
 have ho1 : OwnB (w.alloc (.cells #[] 5)) w.heap.size 5 (.slice (some ⟨w.heap.size, 0, none⟩) 0 0) [] :=
  ⟨by simp [byteCells], .inr ⟨w.heap.size, 0, #[], rfl, Nat.le_refl _, heap_alloc_new w _, Nat.le_refl _, by simp, rfl, rfl⟩⟩
 go_enter Tryz.func14, Tryz.ntmps14
 go_wp2_with (at_builtin; refine wpList_append_view _ rfl _ _ 22 rfl _ 5 Tryz.underlying22 info5u _ _ rfl ho1 hb0 (Nat.le_refl _) _ _ _ rfl hv1 (by simp; omega) ?_; intro v1 w1 hown1 hb1 hsz1)
 go_ret
 rw [List.nil_append] at hown1
 obtain ⟨g1, hv2, hg1⟩ := hown1.view
 by_cases hne : bs = []
 ·subst hne
  have hz := hb0.size
  exact ⟨_, w.heap.size, rfl, hv2.any, Nat.le_refl _, by have := hsz1.size; rw [size_allocT] at this; omega, hb1⟩
 ·rcases hown1.2 with ⟨_, h0⟩ | ⟨g2, cap, cur, rfl, h1, h2, _⟩
  ·exact absurd (List.eq_nil_of_length_eq_zero h0) hne
  ·have e := hg1 g2 rfl
   exact ⟨_, g1, rfl, hv2, by omega, hv2.lt hne, hb1⟩
theorem OwnX.low {w : World} {B B' : Nat} {v : Value} {l : List TT} (h : OwnX w B v l) (hb : B' ≤ B) : OwnX w B' v l := by
 refine ⟨h.1, ?_⟩
 rcases h.2 with hn | ⟨q, cap, cur, rfl, h1, rest⟩
 ·exact .inl hn
 ·exact .inr ⟨q, cap, cur, rfl, by omega, rest⟩
theorem XRes.low {B : Nat} {R : List TT × Bool} {w0 w w' : World} {e : Ending} (h : XRes B R w0 e w') (h0 : Below w.heap.size w w0) (hb : w.heap.size ≤ B) : XRes w.heap.size R w e w' := by
 obtain ⟨v, h1, h2, h3⟩ := h
 exact ⟨v, h1, h2.low hb, h0.trans (h3.mono hb)⟩
theorem newRead {p g : Nat} {bs : List UInt8} {v : Value} {w : World} (ps : List Bool) (vpk : Value) (h : DW p p g bs (.slice none 0 0) .nilIface (.slice none 0 0) v v DT.new w) (hm : bs.length ≤ 10000000) (hps : BView w p vpk ps) (hpl : ps.length ≤ 2147483647) :
  Calls Tryz.prog 12 #[.pointer (some ⟨p, 0, none⟩), vpk] w (XRes p (allT bs ps) w) :=
 textRead_any ps vpk h hm DOk2.new rfl rfl hps hpl
set_option maxRecDepth 100000 in
theorem textTokens_any (v : Value) (bs : List UInt8) (g : Nat) (w : World) (hv : View w g v bs) (hm : bs.length ≤ 10000000) (hgl : Glob w) (h9 : 9 ≤ w.heap.size) :
  Calls Tryz.prog 7 #[v] w (XRes w.heap.size (allT bs []) w) := by
 obtain ⟨ao, n, c, rfl⟩ := hv.slice3
 have HV := hid hv
 have HG := hid hgl
 clear hv hgl
 go_enter Tryz.func7, Tryz.ntmps7
 go_wp2_with (first
  | (go_at_call 14; refine (copied_any _ bs g _ HV.out (by omega)).mono ?_; rintro e w1 ⟨v1, g1, rfl, hv1, hg1, hl1, hb1⟩; obtain ⟨ao1, n1, c1, rfl⟩ := hv1.slice3; have HV1 := hid hv1; have HB1 := hid hb1; have hz1 := hb1.size; clear hv1 hb1)
  | (go_at_call 13; refine (newDecoder_any _ bs g1 _ HV1.out hl1 (HG.out.below HB1.out) (by omega)).mono ?_; rintro e w2 ⟨rfl, hd2, hb2⟩; have HD2 := hid hd2; have HB2 := hid hb2; clear hd2 hb2)
  | (go_at_call 12; refine (newRead [] _ HD2.out hm (BView.nil _ _) (Nat.zero_le _)).mono ?_; rintro e w3 ⟨v3, rfl, ho3, hb3⟩)
  | fail)
 go_ret2
 have h3 : XRes w1.heap.size (allT bs []) w2 (.returned (.tuple #[v3, .bool (allT bs []).2])) w3 := ⟨v3, rfl, ho3, hb3⟩
 exact h3.low (below_comp HB1.out HB2.out) hz1
set_option maxRecDepth 100000 in
theorem textPeeks_any (v vpk : Value) (bs : List UInt8) (ps : List Bool) (g : Nat) (w : World) (hv : View w g v bs) (hps : BView w w.heap.size vpk ps) (hpl : ps.length ≤ 2147483647) (hm : bs.length ≤ 10000000) (hgl : Glob w) (h9 : 9 ≤ w.heap.size) :
  Calls Tryz.prog 8 #[v, vpk] w (XRes w.heap.size (allT bs ps) w) := by
 obtain ⟨ao, n, c, rfl⟩ := hv.slice3
 have HV := hid hv
 have HG := hid hgl
 have HP := hid hps
 obtain ⟨aoP, cP, rfl⟩ : ∃ ao c, vpk = .slice ao ps.length c := by obtain ⟨ao, c, e, _⟩ := hps; exact ⟨ao, c, e⟩
 clear hv hgl hps
 go_enter Tryz.func8, Tryz.ntmps8
 go_wp2_with (first
  | (go_at_call 14; refine (copied_any _ bs g _ HV.out (by omega)).mono ?_; rintro e w1 ⟨v1, g1, rfl, hv1, hg1, hl1, hb1⟩; obtain ⟨ao1, n1, c1, rfl⟩ := hv1.slice3; have HV1 := hid hv1; have HB1 := hid hb1; have hz1 := hb1.size; clear hv1 hb1)
  | (go_at_call 13; refine (newDecoder_any _ bs g1 _ HV1.out hl1 (HG.out.below HB1.out) (by omega)).mono ?_; rintro e w2 ⟨rfl, hd2, hb2⟩; have HD2 := hid hd2; have HB2 := hid hb2; clear hd2 hb2)
  | (go_at_call 12; refine (newRead ps _ HD2.out hm (((HP.out.below HB1.out).mono hz1).below HB2.out) hpl).mono ?_; rintro e w3 ⟨v3, rfl, ho3, hb3⟩)
  | fail)
 go_ret2
 have h3 : XRes w1.heap.size (allT bs ps) w2 (.returned (.tuple #[v3, .bool (allT bs ps).2])) w3 := ⟨v3, rfl, ho3, hb3⟩
 exact h3.low (below_comp HB1.out HB2.out) hz1
end Go.Proofs.YtgdnpnipahegaaaGreatDoor

namespace Go.Proofs.YtgdnpnipahegaaaGreatDoor
open Go.ChangeShapes Go.WideShapes Go.ChangeAt Go.RowKit

theorem txCells_at : ∀ (l : List TT) (i q : Nat) (h : i < l.length), q < 6 → (l.flatMap txCells)[i * 6 + q]? = (txCells l[i])[q]?
 | [], i, q, h, _ => by simp at h
 | t :: l, 0, q, h, hq => by
  rw [List.flatMap_cons, List.getElem?_append_left (by simp [txCells]; omega)]
  simp
 | t :: l, i + 1, q, h, hq => by
  rw [List.flatMap_cons, List.getElem?_append_right (by simp [txCells]; omega)]
  have e : (i + 1) * 6 + q - (txCells t).length = i * 6 + q := by simp [txCells]; omega
  rw [e, txCells_at l i q (by simpa using h) hq]
  simp
theorem OwnX.cells {w : World} {B : Nat} {v : Value} {l : List TT} (h : OwnX w B v l) : ∃ ao cap, v = .slice ao l.length cap ∧ ∀ i (hi : i < l.length), ∃ g, ao = some ⟨g, 0, none⟩ ∧ g < w.heap.size ∧ ∀ q, q < 6 → w.cell? ⟨g, i * 6 + q, none⟩ = (txCells l[i])[q]? := by
 by_cases hne : l = []
 ·obtain ⟨ao, c, rfl⟩ := h.slice
  exact ⟨ao, c, rfl, fun i hi => by rw [hne] at hi; simp at hi⟩
 ·have hl : 0 < l.length := List.length_pos_iff.2 hne
  obtain ⟨g, cap, rfl, hB, hlt⟩ := World.ownsRow.form h hl
  refine ⟨_, cap, rfl, fun i hi => ⟨g, rfl, hlt, fun q hq => ?_⟩⟩
  have h1 := txCells_at l i q hi hq
  have hq' : q < (txCells l[i]).length := by simpa [txCells] using hq
  rw [List.getElem?_eq_getElem hq'] at h1 ⊢
  have h2 := World.ownsRow.cells h (g := g) rfl _ _ h1
  rwa [Addr.add_lit, Nat.zero_add] at h2
theorem tok_cells {w w' : World} {g n : Nat} {t : TT} (hb : Below w.heap.size w w') (hg : g < w.heap.size) (h : ∀ q, q < 6 → w.cell? ⟨g, n + q, none⟩ = (txCells t)[q]?) :
  ∃ k a p s r x, txCells t = [.int .i64 k, .int .i64 a, .int .i64 p, .bool s, .string r, .string x] ∧ w'.cell? ⟨g, n, none⟩ = some (.int .i64 k) ∧ w'.cell? ⟨g, n + 1, none⟩ = some (.int .i64 a) ∧ w'.cell? ⟨g, n + 2, none⟩ = some (.int .i64 p) ∧ w'.cell? ⟨g, n + 3, none⟩ = some (.bool s) ∧ w'.cell? ⟨g, n + 4, none⟩ = some (.string r) ∧ w'.cell? ⟨g, n + 5, none⟩ = some (.string x) := by
 have k : ∀ q, q < 6 → w'.cell? ⟨g, n + q, none⟩ = (txCells t)[q]? := fun q hq => (hb.cell (p := ⟨g, n + q, none⟩) hg).trans (h q hq)
 exact ⟨_, _, _, _, _, _, rfl, k 0 (by omega), k 1 (by omega), k 2 (by omega), k 3 (by omega), k 4 (by omega), k 5 (by omega)⟩
set_option maxRecDepth 100000 in
set_option maxHeartbeats 4000000 in
theorem alike_any (v1 v2 : Value) (l : List TT) (B1 B2 : Nat) (w : World) (h1 : OwnX w B1 v1 l) (h2 : OwnX w B2 v2 l) (hl : l.length ≤ 100000000) :
  Calls Tryz.prog 9 #[v1, v2] w fun e w' => e = .returned (.bool true) ∧ Below w.heap.size w w' := by
 obtain ⟨ao1, c1, rfl, HC1⟩ := h1.cells
 obtain ⟨ao2, c2, rfl, HC2⟩ := h2.cells
 replace HC1 := hid HC1
 replace HC2 := hid HC2
 clear h1 h2
 go_enter Tryz.func9, Tryz.ntmps9
 go_wp2_with fail
 go_loopw [13] (fun i wr => ∃ j : Nat, j ≤ l.length ∧ i = .int .i64 j ∧ Below w.heap.size w wr) (fun i _ => l.length - (intOf i).toNat)
 case atStart => exact ⟨0, Nat.zero_le _, rfl, Below.refl _ _⟩
 case round =>
  obtain ⟨j, hj, rfl, hbr⟩ := hrel
  by_cases hlt : j < l.length
  ·obtain ⟨g1, rfl, hg1, k1⟩ := HC1.out j hlt
   obtain ⟨g2, rfl, hg2, k2⟩ := HC2.out j hlt
   generalize l[j] = t at *
   obtain ⟨k, a, p, s, r, x, ht, a0, a1, a2, a3, a4, a5⟩ := tok_cells hbr hg1 k1
   obtain ⟨k', a', p', s', r', x', ht', b0, b1, b2, b3, b4, b5⟩ := tok_cells hbr hg2 k2
   rw [ht] at ht'
   obtain ⟨rfl, rfl, rfl, rfl, rfl, rfl⟩ : k = k' ∧ a = a' ∧ p = p' ∧ s = s' ∧ r = r' ∧ x = x' := by simpa using ht'
   clear k1 k2 ht ht'
   have HBR := hid hbr
   clear hbr
   go_upto_region 6 with fail
   go_quiet (fail)
   go_wp2_with fail
   go_roundw
   case rel => exact ⟨j + 1, by omega, by go_num, HBR.out.trans ⟨rfl, rfl, rfl, Nat.le_refl _, fun _ _ => rfl⟩⟩
   case measure => simp [intOf]; omega
  ·go_wp2_with fail
   go_ret
   exact ⟨rfl, hbr⟩
end Go.Proofs.YtgdnpnipahegaaaGreatDoor

namespace Go.Proofs.YtgdnpnipahegaaaGreatDoor
open Go.ChangeShapes Go.WideShapes Go.ChangeAt Go.RowKit

theorem runT_len (bs : List UInt8) (ps : List Bool) : ∀ (f : Nat) (s : DT) (l : List TT), (runT bs ps f s l).1.length ≤ l.length + f
 | 0, _, _ => Nat.le_refl _
 | f + 1, s, l => by
  show (match readT bs (if ps.getD l.length false then peekT bs s else s) with | none => (l, false) | some s1 => if s1.tok.kind = 1 then (l, true) else runT bs ps f s1 (l ++ [s1.tok])).1.length ≤ _
  rcases readT bs (if ps.getD l.length false then peekT bs s else s) with _ | s1
  ·exact Nat.le_add_right _ _
  ·simp only
   split
   ·exact Nat.le_add_right _ _
   ·have := runT_len bs ps f s1 (l ++ [s1.tok])
    simp only [List.length_append, List.length_cons, List.length_nil] at this
    omega
theorem allT_len (bs : List UInt8) (ps : List Bool) : (allT bs ps).1.length ≤ bs.length + 1 := by
 have := runT_len bs ps (bs.length + 1) DT.new []
 simpa [allT] using this
def XTold (B : Nat) (l : List TT) (b : Bool) (w0 : World) (e : Ending) (w' : World) : Prop := ∃ ao c, e = .returned (.tuple #[.slice ao l.length c, .bool b]) ∧ OwnX w' B (.slice ao l.length c) l ∧ Below w0.heap.size w0 w'
theorem XRes.told {l : List TT} {b : Bool} {w w' : World} {e : Ending} {R : List TT × Bool} (h : XRes w.heap.size R w e w') (hR : R = (l, b)) : XTold w.heap.size l b w e w' := by
 subst hR
 obtain ⟨v, rfl, h2, h3⟩ := h
 obtain ⟨ao, c, rfl⟩ := h2.slice
 exact ⟨ao, c, rfl, h2, h3⟩
theorem field_reads : ∃ a b, allT [97, 58, 32, 49] [] = ([a, b], true) := ⟨_, _, by rfl⟩
theorem view_mark (w : World) (bs : List UInt8) (cells : Array Value) (t : TypeId) (fr : Nat × Nat) (hc : cells.toList = byteCells bs) (hm : bs.length ≤ maxLen) : View (w.alloc (.cells cells t fr)) w.heap.size (.slice (some ⟨w.heap.size, 0, none⟩) bs.length bs.length) bs :=
 ⟨_, _, rfl, Nat.le_refl _, hm, (fun h => by cases h), 0, (fun _ => rfl), fun j hj => by
  rw [Go.Joins.cell_alloc_mark_at w cells t fr _ (0 + j) rfl, ← Array.getElem?_toList, hc]
  simp [byteCells, hj]⟩
set_option maxRecDepth 100000 in
set_option maxHeartbeats 4000000 in
theorem fnTextPeeks_any (v vpk : Value) (bs : List UInt8) (ps : List Bool) (g : Nat) (w : World) (hv : View w g v bs) (hps : BView w w.heap.size vpk ps) (hgl : Glob w) (h9 : 9 ≤ w.heap.size) :
  Calls Tryz.prog 5 #[v, vpk] w fun e w' => e = .returned (.bool true) ∧ Below w.heap.size w w' := by
 have hb0 : Below w.heap.size w w := Below.refl _ _
 have HV := hid hv
 have HG := hid hgl
 have HP := hid hps
 obtain ⟨aoP, cP, rfl⟩ : ∃ ao c, vpk = .slice ao ps.length c := by obtain ⟨ao, c, e, _⟩ := hps; exact ⟨ao, c, e⟩
 obtain ⟨aoB, cB, rfl⟩ := hv.slice
 clear hv hgl hps
 by_cases h1 : bs.length ≤ 4000
 ·by_cases h2 : ps.length ≤ 2147483647
  ·have hlen := allT_len bs []
   obtain ⟨ta, tb, hab⟩ := field_reads
   have HT : Hid (∀ w', Below w.heap.size w w' → Calls Tryz.prog 7 #[.slice aoB bs.length cB] w' (XTold w'.heap.size (allT bs []).1 (allT bs []).2 w')) :=
    hid fun w' hb => (textTokens_any _ bs g w' (HV.out.below hb) (by omega) (HG.out.below hb) (by have := hb.size; omega)).mono fun e w2 h => h.told rfl
   have HK : Hid (∀ w', Below w.heap.size w w' → Calls Tryz.prog 8 #[.slice aoB bs.length cB, .slice aoP ps.length cP] w' (XTold w'.heap.size (allT bs []).1 (allT bs []).2 w')) :=
    hid fun w' hb => (textPeeks_any _ _ bs ps g w' (HV.out.below hb) ((HP.out.below hb).mono hb.size) h2 (by omega) (HG.out.below hb) (by have := hb.size; omega)).mono fun e w2 h => h.told (peeks_nothing bs ps)
   have HF : Hid (∀ w', Below w.heap.size w w' → Calls Tryz.prog 7 #[.slice (some ⟨w'.heap.size, 0, none⟩) 4 4] (w'.alloc (.cells #[.int .u8 97, .int .u8 58, .int .u8 32, .int .u8 49] 5 (4, 5))) fun e w2 => (∃ ao c, e = .returned (.tuple #[.slice ao 2 c, .bool true])) ∧ Below w.heap.size w w2) :=
    hid fun w' hb => by
     have hbA : Below w.heap.size w (w'.alloc (.cells #[.int .u8 97, .int .u8 58, .int .u8 32, .int .u8 49] 5 (4, 5))) := hb.alloc hb.size _
     refine (textTokens_any _ [97, 58, 32, 49] w'.heap.size _ (view_mark w' [97, 58, 32, 49] _ _ _ rfl (by simp [maxLen])) (by simp) (HG.out.below hbA) (Nat.le_trans h9 hbA.size)).mono fun e w2 h => ?_
     obtain ⟨ao, c, h1, h2, h3⟩ := h.told hab
     exact ⟨⟨ao, c, h1⟩, hbA.trans (h3.mono hbA.size)⟩
   have kc := fun (w : World) => Lib.run_convert_bytes_const (P := Tryz.prog) w 22 5 #[.int .u8 97, .int .u8 58, .int .u8 32, .int .u8 49] 4 4 Tryz.underlying22 Tryz.underlying5
   simp only [List.size_toArray, List.length_cons, List.length_nil] at kc
   generalize (allT bs []).1 = L at *
   generalize (allT bs []).2 = b at *
   have hlL : L.length ≤ 5000 := by omega
   clear hlen hab
   go_enter Tryz.func5, Tryz.ntmps5
   go_wp2_with (first
    | (go_at_call 7; refine (Calls.mono (HT.out _ hb0) ?_); rintro e w1 ⟨ao1, c1, rfl, ho1, hb1⟩; have HO1 := hid ho1; have HB1 := hid hb1; clear ho1 hb1)
    | (go_at_call 8; refine (Calls.mono (HK.out _ HB1.out) ?_); rintro e w2 ⟨ao2, c2, rfl, ho2, hb2⟩; have HO2 := hid ho2; have HB2 := hid hb2; have HB3 := hid (below_comp HB1.out hb2); clear ho2 hb2)
    | (go_at_call 9; refine (alike_any _ _ L _ _ _ (HO1.out.below HB2.out) HO2.out (by omega)).mono ?_; rintro e w3 ⟨rfl, hb3⟩; have HB4 := hid (below_comp HB3.out hb3); have HBB := hid (below_comp HB2.out hb3); have HBC := hid hb3; clear hb3)
    | fail)
   obtain ⟨ao1', c1', he1, HC1⟩ := (HO1.out.below HBB.out).cells
   obtain ⟨ao2', c2', he2, HC2⟩ := (HO2.out.below HBC.out).cells
   injection he1 with he1 _ he1'
   injection he2 with he2 _ he2'
   subst he1 he1' he2 he2'
   replace HC1 := hid HC1
   replace HC2 := hid HC2
   go_loopw [43] (fun i wr => ∃ j : Nat, j ≤ L.length ∧ i = .int .i64 j ∧ Below w3.heap.size w3 wr) (fun i _ => L.length - (intOf i).toNat)
   case atStart => exact ⟨0, Nat.zero_le _, rfl, Below.refl _ _⟩
   case round =>
    obtain ⟨j, hj, rfl, hbr⟩ := hrel
    by_cases hlt : j < L.length
    ·obtain ⟨g1, rfl, hg1, k1⟩ := HC1.out j hlt
     obtain ⟨g2, rfl, hg2, k2⟩ := HC2.out j hlt
     generalize L[j] = t at *
     obtain ⟨k, a, p, s, r, x, ht, a0, a1, a2, a3, a4, a5⟩ := tok_cells hbr hg1 k1
     obtain ⟨k', a', p', s', r', x', ht', b0, b1, b2, b3, b4, b5⟩ := tok_cells hbr hg2 k2
     rw [ht] at ht'
     obtain ⟨rfl, rfl, rfl, rfl, rfl, rfl⟩ : k = k' ∧ a = a' ∧ p = p' ∧ s = s' ∧ r = r' ∧ x = x' := by simpa using ht'
     clear k1 k2 ht ht'
     have HBR := hid hbr
     clear hbr
     go_upto_region 12 with fail
     go_quiet (fail)
     go_wp2_with fail
     go_roundw
     case rel => exact ⟨j + 1, by omega, by go_num, HBR.out.trans ⟨rfl, rfl, rfl, Nat.le_refl _, fun _ _ => rfl⟩⟩
     case measure => simp [intOf]; omega
    ·have HBR := hid (below_comp HB4.out hbr)
     clear hbr
     go_wp2_with (first
      | (go_at_call 7; refine (Calls.mono (HF.out _ HBR.out) ?_); rintro e w5 ⟨⟨ao5, c5, rfl⟩, hb5⟩)
      | fail)
     go_ret
     exact ⟨rfl, hb5⟩
  ·go_enter Tryz.func5, Tryz.ntmps5
   go_wp2_with fail
   go_ret
   exact ⟨rfl, hb0⟩
 ·by_cases h3 : bs.length ≤ 2147483647 <;> by_cases h2 : ps.length ≤ 2147483647
  all_goals
   go_enter Tryz.func5, Tryz.ntmps5
   go_wp2_with fail
   go_ret
   exact ⟨rfl, hb0⟩
end Go.Proofs.YtgdnpnipahegaaaGreatDoor

namespace Go.Proofs.YtgdnpnipahegaaaGreatDoor
open Go.ChangeShapes Go.WideShapes Go.ChangeAt Go.RowKit

set_option maxRecDepth 100000 in
theorem open_boolv {H : Type} {enc : TypeId × Value → H} {W : World} {b0 : Nat} {v : Value} {d : DataW H} {ps : List MemPlace} (hval : Value.okWide Tryz.prog W .any b0 32 v) (hd : DataW.Trod enc Tryz.prog W 0 (fun _ => true) true 32 v d ps) : ∃ l, BView W W.heap.size v l := by
 obtain ⟨a0, len, cap, rfl⟩ := okWide_slice Tryz.underlying32 hval
 obtain ⟨fuel, hf⟩ := hd
 rcases Go.Deep.open_bools Tryz.underlying32 Tryz.underlying4 (by kernel_rfl) hf with ⟨hcs, _⟩ | ⟨a, len', cap', B, hcs, _, hl, hm, _, hc⟩
 ·simp [Value.cells] at hcs
  obtain ⟨rfl, rfl, rfl⟩ := hcs
  exact ⟨[], BView.nil _ _⟩
 ·simp [Value.cells] at hcs
  obtain ⟨rfl, rfl, rfl⟩ := hcs
  refine ⟨(List.range len).map B, some a, cap, by simp, fun j hj => ?_⟩
  have hj2 : j < len := by simpa using hj
  obtain ⟨b, o, s⟩ := a
  have h0 := hc 0 (by omega)
  have h1 := hc j (by omega)
  have hs : s = none := by simpa [Addr.add] using World.cell?_spot h0
  subst hs
  rw [Addr.add_lit] at h1
  exact ⟨b, o, rfl, World.block_lt_of_cell? W _ h1, by rw [h1]; simp⟩
end Go.Proofs.YtgdnpnipahegaaaGreatDoor
