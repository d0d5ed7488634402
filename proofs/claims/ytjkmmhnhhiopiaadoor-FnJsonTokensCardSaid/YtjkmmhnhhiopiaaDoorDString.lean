/-
  The package's reader of JSON, walked: a string.
-/
import Derived.Test.YtjkmmhnhhiopiaaDoorDOut
import Derived.Test.YtjkmmhnhhiopiaaDoorDParts
import Derived.Test.YtjkmmhnhhiopiaaDoorDHex
import Derived.Test.YtjkmmhnhhiopiaaDoorDError
import Derived.Test.YtjkmmhnhhiopiaaDoorGuard
import Derived.Deep.RegionLaw
import Derived.Deep.RegionHeld3
import Derived.Deep.RegionWith
namespace Go.Proofs.YtjkmmhnhhiopiaaDoor
open Go.ChangeShapes Go.WideShapes Go.ChangeAt Go.RowKit

theorem u8_small {l : List UInt8} {c n : Nat} (h : u8char l = some (c, n)) (hc : c < 128) : ∃ b l2, l = b :: l2 ∧ b.toNat = c ∧ n = 1 := by
  cases l with
  | nil => cases h
  | cons b l2 =>
    by_cases h1 : b.toNat < 128
    · rw [u8char_cons, if_pos h1] at h; cases h; exact ⟨b, l2, rfl, rfl, rfl⟩
    · rw [u8char_cons, if_neg h1] at h
      rcases hh : u8head b.toNat with _ | ⟨k, least, first⟩
      · rw [hh] at h; cases h
      · rw [hh] at h
        simp only at h
        have hk := u8head_le hh
        rcases ht : u8take k first l2 with _ | v'
        · rw [ht] at h; cases h
        · rw [ht] at h
          simp only at h
          split at h
          · rename_i hok
            cases h
            unfold u8ok at hok
            simp at hok
            omega
          · cases h
theorem u8_one {l : List UInt8} {c n : Nat} (h : u8char l = some (c, n)) (hn : n = 1) : c < 128 := by
  cases l with
  | nil => cases h
  | cons b l2 =>
    by_cases h1 : b.toNat < 128
    · rw [u8char_cons, if_pos h1] at h; cases h; exact h1
    · rw [u8char_cons, if_neg h1] at h
      rcases hh : u8head b.toNat with _ | ⟨k, least, first⟩
      · rw [hh] at h; cases h
      · rw [hh] at h
        simp only at h
        have hk := u8head_le hh
        rcases ht : u8take k first l2 with _ | v'
        · rw [ht] at h; cases h
        · rw [ht] at h
          simp only at h
          split at h
          · cases h; omega
          · cases h
theorem chr_bad {l : List UInt8} (h : chr l = (65533, 1)) : u8char l = none := by
  rcases hu : u8char l with _ | ⟨c, n⟩
  · rfl
  · have : chr l = (c, n) := by unfold chr; rw [hu]
    rw [this] at h
    injection h with h1 h2
    have := u8_one hu h2
    omega

def StrRes (o : Option (List UInt8 × Nat)) (e : Ending) : Prop := match o with
  | some (t, n) => e = .returned (.tuple #[.string ⟨t.toArray⟩, .int .i64 (n : Int), .nilIface])
  | none => ∃ te x, e = .returned (.tuple #[.string ⟨#[]⟩, .int .i64 0, .iface te x])
theorem StrRes.bad {o : Option (List UInt8 × Nat)} (h : o = none) (te : TypeId) (x : Value) : StrRes o (.returned (.tuple #[.string ⟨#[]⟩, .int .i64 0, .iface te x])) := by rw [h]; exact ⟨te, x, rfl⟩
def slen : Value → Nat
  | .slice _ n _ => n
  | _ => 0

theorem slen_view {w : World} {g : Nat} {v : Value} {bs : List UInt8} (h : View w g v bs) : slen v = bs.length := by
  obtain ⟨ao, cp, rfl⟩ := h.slice
  rfl
theorem slen_lt {w w' : World} {g g' : Nat} {v v' : Value} {a b : List UInt8} (h : View w g v a) (h' : View w' g' v' b) (hl : a.length < b.length) : slen v < slen v' := by
  rw [slen_view h, slen_view h']; exact hl
theorem escU_short {b d : UInt8} {l : List UInt8} (h : l.length < 4) : escU (b :: d :: l) = none := by unfold escU; rw [if_pos (by simp; omega)]
theorem escU_hex {b d : UInt8} {l : List UInt8} (h : ¬ l.length < 4) : escU (b :: d :: l) = (match hexN 0 (l.take 4) with
  | none => none
  | some v => if surrB v = false then some (encU v, 6)
    else if (b :: d :: l).length < 12 then none
    else match hexN 0 (((b :: d :: l).drop 8).take 4) with
    | none => none
    | some u => if ((b :: d :: l).getD 6 0).toNat = 92 ∧ ((b :: d :: l).getD 7 0).toNat = 117 ∧ pairR v u ≠ 65533 then some (encU (pairR v u), 12) else none) := by
  unfold escU; rw [if_neg (by simp; omega)]; rfl
theorem escU_bad {b d : UInt8} {l : List UInt8} (h : ¬ l.length < 4) (hx : hexN 0 (l.take 4) = none) : escU (b :: d :: l) = none := by rw [escU_hex h, hx]
theorem escU_one {b d : UInt8} {l : List UInt8} {v : Nat} (h : ¬ l.length < 4) (hx : hexN 0 (l.take 4) = some v) (hs : surrB v = false) : escU (b :: d :: l) = some (encU v, 6) := by
  rw [escU_hex h, hx]; simp only; rw [if_pos hs]
theorem escU_short2 {b d : UInt8} {l : List UInt8} {v : Nat} (h : ¬ l.length < 4) (hx : hexN 0 (l.take 4) = some v) (hs : surrB v = true) (h2 : (l.drop 4).length < 6) : escU (b :: d :: l) = none := by
  rw [escU_hex h, hx]; simp only; rw [if_neg (by rw [hs]; decide), if_pos (by simp at h2 ⊢; omega)]
theorem escU_more {b d e f : UInt8} {l l5 : List UInt8} {v : Nat} (h : ¬ l.length < 4) (hx : hexN 0 (l.take 4) = some v) (hs : surrB v = true) (h4 : l.drop 4 = e :: f :: l5) (h5 : 4 ≤ l5.length) : escU (b :: d :: l) = (match hexN 0 (l5.take 4) with
    | none => none
    | some u => if e.toNat = 92 ∧ f.toNat = 117 ∧ pairR v u ≠ 65533 then some (encU (pairR v u), 12) else none) := by
  have hl : l.length = l5.length + 6 := by have := congrArg List.length h4; simp at this; omega
  have hd : (b :: d :: l).drop 8 = l5 := by
    show l.drop 6 = l5
    rw [show 6 = 4 + 2 from rfl, ← List.drop_drop, h4]; rfl
  have he : (b :: d :: l).getD 6 0 = e := by
    have := congrArg (fun x => x.getD 0 0) h4
    simpa [List.getD_eq_getElem?_getD] using this
  have hf : (b :: d :: l).getD 7 0 = f := by
    have := congrArg (fun x => x.getD 1 0) h4
    simpa [List.getD_eq_getElem?_getD] using this
  rw [escU_hex h, hx]; simp only; rw [if_neg (by rw [hs]; decide), if_neg (by simp; omega), hd, he, hf]
theorem escC_no {d : Nat} (h : d ≠ 34 ∧ d ≠ 92 ∧ d ≠ 47 ∧ d ≠ 98 ∧ d ≠ 102 ∧ d ≠ 110 ∧ d ≠ 114 ∧ d ≠ 116) : escC d = 0 := by
  unfold escC
  rw [if_neg (by omega), if_neg (by omega), if_neg (by omega), if_neg (by omega), if_neg (by omega), if_neg (by omega)]
theorem enc_str {c : Nat} (h : c < 55296 ∨ 57344 ≤ c ∧ c ≤ 1114111) : Utf8.encode (c : Int) = ⟨(encU c).toArray⟩ := by
  have hv : Utf8.valid (c : Int) = true := by unfold Utf8.valid; simp; omega
  unfold Utf8.encode encU
  simp only [hv, if_true, Int.toNat_natCast]
  repeat' split
  all_goals first | rfl | omega
theorem encU_pos (c : Nat) : 1 ≤ (encU c).length := by
  unfold encU
  split
  · simp
  · split
    · simp
    · split <;> simp
theorem pairR_zero (v : Nat) : pairR v 0 = 65533 := by unfold pairR; rw [if_neg (by omega)]
theorem pairR_ok {v u : Nat} (h : pairR v u ≠ 65533) : 57344 ≤ pairR v u ∧ pairR v u ≤ 1114111 := by
  unfold pairR at h ⊢
  split
  · omega
  · rename_i hn; rw [if_neg hn] at h; exact absurd rfl h
theorem view_cells {w : World} {g : Nat} {ao : Option Addr} {m cp : Nat} {bs : List UInt8} (hv : View w g (.slice ao m cp) bs) (hne : 1 ≤ bs.length) : ∃ ad : Addr, ao = some ad ∧ ∀ j u, (byteCells bs)[j]? = some u → w.cell? (ad.add j) = some u := by
  obtain ⟨ao', cap, he, h3, h4, hn0, off, h5, h6⟩ := hv
  injection he with e1 e2 e3
  subst e1 e2 e3
  refine ⟨⟨g, off, none⟩, h5 (by intro e; rw [e] at hne; simp at hne), fun j u hu => ?_⟩
  have hj : j < bs.length := by have := (List.getElem?_eq_some_iff.1 hu).1; simpa [byteCells] using this
  rw [Addr.add_lit, h6 j hj, ← hu]
  simp [byteCells, hj]
theorem take_pos {l : List UInt8} {n : Nat} (h1 : 1 ≤ n) (h2 : n ≤ l.length) : 1 ≤ (l.take n).length := by rw [List.length_take]; omega
theorem wrap_small {n i m k : Nat} (hm : k ≤ 10000000) (hl : m ≤ k) (h : n + i ≤ m) : IntKind.i64.wrap ((n : Int) + (i : Int)) = (n : Int) + (i : Int) := wraps_i64' _ (by omega) (by omega)
theorem View.keptB {w w' : World} {g B : Nat} {v : Value} {bs : List UInt8} (h : View w g v bs) (hb : Below B w w') (hg : g < B) : View w' g v bs := h.kept (hb.block g hg)
theorem strJ_no {c : UInt8} {r : List UInt8} (h : strA r [] = none) : strJ (c :: r) = none := by rw [strJ_cons, h]
variable {B p g : Nat} {bs : List UInt8} {vr ve vst vo vi : Value}
set_option maxRecDepth 100000 in
set_option maxHeartbeats 40000000 in
theorem parseString_any (s : DS) (w : World) (h : DW B p g bs vr ve vst vo vi s w) (v : Value) (c0 : UInt8) (r : List UInt8) (gg : Nat) (hv : View w gg v (c0 :: r)) (hc0 : c0.toNat = 34) (hm : r.length ≤ 10000000) :
    Calls Tryd.prog 72 #[.pointer (some ⟨p, 0, none⟩), v] w fun e w' => StrRes (strJ (c0 :: r)) e ∧ Below w.heap.size w w' := by
  obtain ⟨v1, hsl1, hv1⟩ := view_from (P := Tryd.prog) hv 28 5 Tryd.underlying28 info5u .i64 1 1 rfl (by simp)
  simp only [List.drop_succ_cons, List.drop_zero] at hv1
  have hi := needN_le r.length r
  obtain ⟨i, hi0⟩ : ∃ i, i = needAt r := ⟨_, rfl⟩
  have hi : i ≤ r.length := by rw [hi0]; exact hi
  obtain ⟨v2, hsl2, hv2⟩ := view_from (P := Tryd.prog) hv1 28 5 Tryd.underlying28 info5u .i64 (i : Int) i rfl hi
  obtain ⟨o1, hsl3, ho1⟩ := view_full (P := Tryd.prog) (B := w.heap.size) hv1 28 5 Tryd.underlying28 info5u .i64 .i64 i hi
  have HS : Hid (strA r [] = strA (r.drop i) (r.take i)) := hid (by rw [strA_skip r.length r [], hi0]; rfl)
  have HD := hid fun (w' : World) (hb : Below w.heap.size w w') => h.below hb
  have HNB := hid fun (w' : World) => needBytes_any v1 r gg w'
  rw [← hi0] at HNB
  have hne : (0 : Int) < ((c0 :: r).length : Int) := by simp <;> omega
  have hlen0 : (((c0 :: r).length : Int) == 0) = false := by simp <;> omega
  have hne0 : (0 : Int).toNat < (c0 :: r).length := by simp
  have hq : ((c0.toNat : Int) != 34) = false := by simp; omega
  have HV := hid hv
  have HGG := hid (hv.lt (by simp))
  clear h hi0
  go_enter Tryd.func72, Tryd.ntmps72
  go_upto_region 8 with (first
    | ((with_reducible refine is_len ?_); refine wpList_len_view _ (by rfl) _ 28 5 rfl Tryd.underlying28 _ _ _ rfl HV.out ?_)
    | ((with_reducible refine is_index ?_); refine wpList_index_view _ (by rfl) _ _ 28 5 rfl Tryd.underlying28 info5u _ _ _ rfl HV.out _ (0 : Int) rfl (by decide) hne0 ?_; intro ad1 hc1; try simp only [Int.toNat_zero, List.getElem_cons_zero] at hc1)
    | (go_at_call 82; refine (HNB.out _ hv1 (by omega)).mono ?_; rintro e w1 ⟨rfl, hb1⟩)
    | fail)
  go_quiet (fail)
  go_wp2_with fail
  go_loopw [1, 9] (fun u o wr => ∃ l out : List UInt8, View wr gg u l ∧ OutV wr w.heap.size 5 o out ∧ strA r [] = strA l out ∧ Below w.heap.size w wr ∧ l.length ≤ r.length ∧ out.length + 4 * l.length ≤ 4 * r.length) (fun u _ _ => slen u)
  case atStart =>
    have hbX : Below w.heap.size w (w1.drewN nq) := hb1.trans ⟨rfl, rfl, rfl, Nat.le_refl _, fun _ _ => rfl⟩
    exact ⟨r.drop i, r.take i, hv2.below hbX, ho1.below hbX, HS.out, hbX, by simp, by simp; omega⟩
  case round =>
    obtain ⟨l, out, hvl, hol, hst, hb, hlr, ho4⟩ := hrel
    have HST := hid hst
    have HB := hid hb
    have HOL := hid hol
    have HVL := hid hvl
    have hdw := HD.out _ hb
    obtain ⟨te, pe, hgl⟩ := hdw.glob.eof
    have HDR := hid fun (w' : World) (hb' : Below wr.heap.size wr w') => HD.out _ (hb.trans (hb'.mono hb.size))
    clear hst hb hol hdw hvl hne hlen0 hne0 hq hsl1 hsl2 hsl3 hv1 hv2 ho1
    by_cases hne : l = []
    · subst hne
      as_aux_lemma =>
        have HN : Hid (strJ (c0 :: r) = none) := hid (strJ_no (HST.out.trans (strA_none rfl)))
        obtain ⟨ao, cp, rfl⟩ := HVL.out.slice
        go_wp2_with fail
        go_quiet (fail)
        go_wp2_with fail
        go_ret3
        exact ⟨StrRes.bad HN.out _ _, HB.out.trans ⟨rfl, rfl, rfl, Nat.le_refl _, fun _ _ => rfl⟩⟩
    · have hlp : (0 : Int) < (l.length : Int) := by have := List.length_pos_iff.2 hne; omega
      have hdec := decodeRune_any u1 l gg wr HVL.out hne (by omega) (HDR.out wr (Below.refl _ _)).glob.tabs
      unfold decV at hdec
      rcases hcn : chr l with ⟨c, n⟩
      rw [hcn] at hdec
      simp only at hdec
      have HDEC := hid hdec
      have HCN := hid hcn
      have HNE := hid hne
      clear hdec hcn hne
      go_upto_region 13 with (first | ((with_reducible refine is_len ?_); refine wpList_len_view _ (by rfl) _ 28 5 rfl Tryd.underlying28 _ _ _ rfl HVL.out ?_) | (go_at_call 83; refine (Calls.mono HDEC.out ?_); rintro e w2 ⟨rfl, hb2⟩) | fail)
      by_cases hbad : c = 65533 ∧ n = 1
      · obtain ⟨rfl, rfl⟩ := hbad
        as_aux_lemma =>
          have HN : Hid (strJ (c0 :: r) = none) := hid (strJ_no (HST.out.trans (strA_none (chr_bad HCN.out))))
          clear HCN
          go_wp2_with (first | (go_at_call 51; refine (currPos_any _ _ (HDR.out _ hb2)).mono ?_; rintro e w3 ⟨rfl, hb3⟩) | (go_at_call 49; refine (newError_any _ _ _ _ _ (by decide)).mono ?_; rintro e w4 ⟨⟨x, rfl⟩, hb4⟩) | fail)
          go_ret3
          exact ⟨StrRes.bad HN.out _ _, below_comp (below_comp (below_comp HB.out hb2) hb3) hb4⟩
      · have hu := chr_u8 HCN.out hbad
        have hsz := u8char_size hu
        have HA := hid (strA_some (out := out) hu)
        have HU := hid hu
        clear hu HCN
        by_cases h32 : c < 32
        · have HN : Hid (strJ (c0 :: r) = none) := hid (strJ_no (HST.out.trans (by rw [HA.out, if_neg (by omega), if_pos h32])))
          as_aux_lemma =>
            have e1 : ((c : Int) == 65533) = false := by simp; omega
            have e2 : (c : Int) < 32 := by omega
            clear h32 hbad
            go_wp2_with (first | (go_at_call 51; refine (currPos_any _ _ (HDR.out _ (below_comp hb2 (by first | exact Below.refl _ _ | exact (Below.refl _ _).drew | exact (Below.refl _ _).alloc (Nat.le_refl _) _ | exact ((Below.refl _ _).alloc (Nat.le_refl _) _).drew)))).mono ?_; rintro e w3 ⟨rfl, hb3⟩) | (go_at_call 49; refine (newError_any _ _ _ _ _ (by decide)).mono ?_; rintro e w4 ⟨⟨x, rfl⟩, hb4⟩) | fail)
            go_ret3
            exact ⟨StrRes.bad HN.out _ _, below_comp (below_comp (below_comp (below_comp (below_comp HB.out hb2) (by first | exact Below.refl _ _ | exact (Below.refl _ _).drew | exact (Below.refl _ _).alloc (Nat.le_refl _) _ | exact ((Below.refl _ _).alloc (Nat.le_refl _) _).drew)) hb3) (by first | exact Below.refl _ _ | exact (Below.refl _ _).drew | exact (Below.refl _ _).alloc (Nat.le_refl _) _ | exact ((Below.refl _ _).alloc (Nat.le_refl _) _).drew)) hb4⟩
        · by_cases h34 : c = 34
          · subst h34
            obtain ⟨b, l2, rfl, hb34, rfl⟩ := u8_small HU.out (by decide)
            have HN : Hid (strJ (c0 :: r) = some (out, r.length + 1 - l2.length)) := hid (by rw [strJ_cons, HST.out, HA.out, if_pos rfl]; rfl)
            have h1le : (1 : Int) ≤ ((b :: l2).length : Int) := by simp <;> omega
            have hn1 : l2.length + 1 ≤ r.length := by simpa using hlr
            clear hbad h32
            go_wp2_with (first
              | ((with_reducible refine is_from ?_); refine wpList_slice_from _ (by rfl) _ _ 28 5 rfl Tryd.underlying28 info5u _ _ _ rfl (HVL.out.below hb2) _ (1 : Int) rfl (by decide) h1le ?_; intro vs1 hvs1; try simp only [Int.toNat_one, List.drop_succ_cons, List.drop_zero] at hvs1)
              | ((with_reducible refine is_len ?_); refine wpList_len_view _ (by rfl) _ 28 5 rfl Tryd.underlying28 _ _ _ rfl (HV.out.below (below_comp HB.out hb2)) ?_)
              | ((with_reducible refine is_len ?_); refine wpList_len_view _ (by rfl) _ 28 5 rfl Tryd.underlying28 _ _ _ rfl hvs1 ?_)
              | ((with_reducible refine is_conv ?_); refine wpList_string_out _ (by rfl) _ 28 9 5 rfl Tryd.underlying28 Tryd.underlying5 Tryd.underlying9 w.heap.size _ out rfl (HOL.out.below hb2) ?_)
              | fail)
            go_ret3
            refine ⟨?_, below_comp HB.out hb2⟩
            have e : ((r.length + 1 - l2.length : Nat) : Int) = (r.length : Int) + 1 - l2.length := by omega
            rw [HN.out]
            show Ending.returned _ = Ending.returned _
            rw [e]
            rfl
          · by_cases h92 : c = 92
            · subst h92
              obtain ⟨b, l2, rfl, hb92, rfl⟩ := u8_small HU.out (by decide)
              have HA2 : Hid (strA r [] = (match escJ (b :: l2) with
                | none => none
                | some (bb, m) => strA ((b :: l2).drop m) (out ++ bb))) := hid (by rw [HST.out, HA.out, if_neg (by decide), if_neg (by decide), if_pos rfl]; rfl)
              clear hbad h32 h34 HA
              rcases l2 with _ | ⟨d, l3⟩
              · have HN : Hid (strJ (c0 :: r) = none) := hid (strJ_no (HA2.out.trans rfl))
                as_aux_lemma =>
                  have hgl3 := (hb2.cell (World.block_lt_of_cell? _ _ hgl)).trans hgl
                  go_upto_region 23 with (first | ((with_reducible refine is_len ?_); refine wpList_len_view _ (by rfl) _ 28 5 rfl Tryd.underlying28 _ _ _ rfl (HVL.out.below hb2) ?_) | fail)
                  go_quiet (fail)
                  go_wp2_with fail
                  go_ret3
                  exact ⟨StrRes.bad HN.out _ _, (below_comp HB.out hb2).trans ⟨rfl, rfl, rfl, Nat.le_refl _, fun _ _ => rfl⟩⟩
              · have hlt2 : decide (((b :: d :: l3).length : Int) < 2) = false := by simp <;> omega
                have h1lt : (1 : Int).toNat < (b :: d :: l3).length := by simp
                go_upto_region 27 with (first
                  | ((with_reducible refine is_len ?_); refine wpList_len_view _ (by rfl) _ 28 5 rfl Tryd.underlying28 _ _ _ rfl (HVL.out.below hb2) ?_)
                  | ((with_reducible refine is_index ?_); refine wpList_index_view _ (by rfl) _ _ 28 5 rfl Tryd.underlying28 info5u _ _ _ rfl (HVL.out.below hb2) _ (1 : Int) rfl (by decide) h1lt ?_; intro ad2 hc2; simp only [Int.toNat_one, List.getElem_cons_succ, List.getElem_cons_zero] at hc2)
                  | fail)
                clear hlt2 h1lt
                have HSL := hid (view_from (P := Tryd.prog) HVL.out 28 5 Tryd.underlying28 info5u .i64 2 2 rfl (by simp))
                have hb2c := HB.out.size
                have hb2s := hb2.size
                by_cases hd34 : d.toNat = 34
                · have HA3 : Hid (strA r [] = strA l3 (out ++ [d])) := hid (by rw [HA2.out, escJ_cons, if_neg (by omega), if_neg (by rw [hd34]; decide), show escC d.toNat = d.toNat by rw [hd34]; rfl]; simp)
                  as_aux_lemma =>
                    have hy34 : ((d.toNat : Int) == 34) = true := by simp; omega
                    obtain ⟨v3, hsl4, hv3⟩ := HSL.out
                    simp only [List.drop_succ_cons, List.drop_zero] at hv3
                    clear hd34 HSL
                    go_upto_region 30 with fail
                    go_region_held3 (fun _ => True) (trivial)
                      ((refine step_append_out _ (by rfl) _ _ 28 (by rfl) 5 Tryd.underlying28 info5u w.heap.size (le_alloc _ _ (by omega)) _ out (by rfl) (HOL.out.below (below_comp hb2 (by first | exact Below.refl _ _ | exact (Below.refl _ _).drew | exact (Below.refl _ _).alloc (Nat.le_refl _) _ | exact ((Below.refl _ _).alloc (Nat.le_refl _) _).drew))) _ 1 _ [d] (by rfl) rfl (by decide) (cell_one _ rfl (heap_alloc_new _ _)) (by omega) ?_; intro v4 w4 hown4 hb4))
                    all_goals
                      have hbE : Below w.heap.size wr w4 := ((below_comp hb2 (by first | exact Below.refl _ _ | exact (Below.refl _ _).drew | exact (Below.refl _ _).alloc (Nat.le_refl _) _ | exact ((Below.refl _ _).alloc (Nat.le_refl _) _).drew)).mono HB.out.size).trans hb4
                      go_wp2_with fail
                      go_roundw
                      case rel => exact ⟨l3, _, hv3.kept (hbE.block gg HGG.out), .inl hown4, HA3.out, HB.out.trans hbE, by simp at hlr; omega, by simp at ho4 ⊢; omega⟩
                      case measure => exact slen_lt hv3 HVL.out (by simp <;> omega)
                · have hn34 : ((d.toNat : Int) == 34) = false := by simp; omega
                  by_cases hd92 : d.toNat = 92
                  · have HA3 : Hid (strA r [] = strA l3 (out ++ [d])) := hid (by rw [HA2.out, escJ_cons, if_neg (by omega), if_neg (by rw [hd92]; decide), show escC d.toNat = d.toNat by rw [hd92]; rfl]; simp)
                    as_aux_lemma =>
                      have hy92 : ((d.toNat : Int) == 92) = true := by simp; omega
                      obtain ⟨v3, hsl4, hv3⟩ := HSL.out
                      simp only [List.drop_succ_cons, List.drop_zero] at hv3
                      clear hd92 HSL
                      go_upto_region 30 with fail
                      go_region_held3 (fun _ => True) (trivial)
                        ((refine step_append_out _ (by rfl) _ _ 28 (by rfl) 5 Tryd.underlying28 info5u w.heap.size (le_alloc _ _ (by omega)) _ out (by rfl) (HOL.out.below (below_comp hb2 (by first | exact Below.refl _ _ | exact (Below.refl _ _).drew | exact (Below.refl _ _).alloc (Nat.le_refl _) _ | exact ((Below.refl _ _).alloc (Nat.le_refl _) _).drew))) _ 1 _ [d] (by rfl) rfl (by decide) (cell_one _ rfl (heap_alloc_new _ _)) (by omega) ?_; intro v4 w4 hown4 hb4))
                      all_goals
                        have hbE : Below w.heap.size wr w4 := ((below_comp hb2 (by first | exact Below.refl _ _ | exact (Below.refl _ _).drew | exact (Below.refl _ _).alloc (Nat.le_refl _) _ | exact ((Below.refl _ _).alloc (Nat.le_refl _) _).drew)).mono HB.out.size).trans hb4
                        go_wp2_with fail
                        go_roundw
                        case rel => exact ⟨l3, _, hv3.kept (hbE.block gg HGG.out), .inl hown4, HA3.out, HB.out.trans hbE, by simp at hlr; omega, by simp at ho4 ⊢; omega⟩
                        case measure => exact slen_lt hv3 HVL.out (by simp <;> omega)
                  · have hn92 : ((d.toNat : Int) == 92) = false := by simp; omega
                    by_cases hd47 : d.toNat = 47
                    · have HA3 : Hid (strA r [] = strA l3 (out ++ [d])) := hid (by rw [HA2.out, escJ_cons, if_neg (by omega), if_neg (by rw [hd47]; decide), show escC d.toNat = d.toNat by rw [hd47]; rfl]; simp)
                      as_aux_lemma =>
                        have hy47 : ((d.toNat : Int) == 47) = true := by simp; omega
                        obtain ⟨v3, hsl4, hv3⟩ := HSL.out
                        simp only [List.drop_succ_cons, List.drop_zero] at hv3
                        clear hd47 HSL
                        go_upto_region 30 with fail
                        go_region_held3 (fun _ => True) (trivial)
                          ((refine step_append_out _ (by rfl) _ _ 28 (by rfl) 5 Tryd.underlying28 info5u w.heap.size (le_alloc _ _ (by omega)) _ out (by rfl) (HOL.out.below (below_comp hb2 (by first | exact Below.refl _ _ | exact (Below.refl _ _).drew | exact (Below.refl _ _).alloc (Nat.le_refl _) _ | exact ((Below.refl _ _).alloc (Nat.le_refl _) _).drew))) _ 1 _ [d] (by rfl) rfl (by decide) (cell_one _ rfl (heap_alloc_new _ _)) (by omega) ?_; intro v4 w4 hown4 hb4))
                        all_goals
                          have hbE : Below w.heap.size wr w4 := ((below_comp hb2 (by first | exact Below.refl _ _ | exact (Below.refl _ _).drew | exact (Below.refl _ _).alloc (Nat.le_refl _) _ | exact ((Below.refl _ _).alloc (Nat.le_refl _) _).drew)).mono HB.out.size).trans hb4
                          go_wp2_with fail
                          go_roundw
                          case rel => exact ⟨l3, _, hv3.kept (hbE.block gg HGG.out), .inl hown4, HA3.out, HB.out.trans hbE, by simp at hlr; omega, by simp at ho4 ⊢; omega⟩
                          case measure => exact slen_lt hv3 HVL.out (by simp <;> omega)
                    · have hn47 : ((d.toNat : Int) == 47) = false := by simp; omega
                      by_cases hd98 : d.toNat = 98
                      · have HA3 : Hid (strA r [] = strA l3 (out ++ [UInt8.ofNat 8])) := hid (by rw [HA2.out, escJ_cons, if_neg (by omega), hd98]; rfl)
                        as_aux_lemma =>
                          have hy98 : ((d.toNat : Int) == 98) = true := by simp; omega
                          obtain ⟨v3, hsl4, hv3⟩ := HSL.out
                          simp only [List.drop_succ_cons, List.drop_zero] at hv3
                          clear hd98 HSL
                          go_upto_region 32 with fail
                          go_region_held3 (fun _ => True) (trivial)
                            ((refine step_append_out _ (by rfl) _ _ 28 (by rfl) 5 Tryd.underlying28 info5u w.heap.size (le_alloc _ _ (by omega)) _ out (by rfl) (HOL.out.below (below_comp hb2 (by first | exact Below.refl _ _ | exact (Below.refl _ _).drew | exact (Below.refl _ _).alloc (Nat.le_refl _) _ | exact ((Below.refl _ _).alloc (Nat.le_refl _) _).drew))) _ 1 _ [UInt8.ofNat 8] (by rfl) rfl (by decide) (cell_one _ (by rfl) (heap_alloc_new _ _)) (by omega) ?_; intro v4 w4 hown4 hb4))
                          all_goals
                            have hbE : Below w.heap.size wr w4 := ((below_comp hb2 (by first | exact Below.refl _ _ | exact (Below.refl _ _).drew | exact (Below.refl _ _).alloc (Nat.le_refl _) _ | exact ((Below.refl _ _).alloc (Nat.le_refl _) _).drew)).mono HB.out.size).trans hb4
                            go_wp2_with fail
                            go_roundw
                            case rel => exact ⟨l3, _, hv3.kept (hbE.block gg HGG.out), .inl hown4, HA3.out, HB.out.trans hbE, by simp at hlr; omega, by simp at ho4 ⊢; omega⟩
                            case measure => exact slen_lt hv3 HVL.out (by simp <;> omega)
                      · have hn98 : ((d.toNat : Int) == 98) = false := by simp; omega
                        by_cases hd102 : d.toNat = 102
                        · have HA3 : Hid (strA r [] = strA l3 (out ++ [UInt8.ofNat 12])) := hid (by rw [HA2.out, escJ_cons, if_neg (by omega), hd102]; rfl)
                          as_aux_lemma =>
                            have hy102 : ((d.toNat : Int) == 102) = true := by simp; omega
                            obtain ⟨v3, hsl4, hv3⟩ := HSL.out
                            simp only [List.drop_succ_cons, List.drop_zero] at hv3
                            clear hd102 HSL
                            go_upto_region 34 with fail
                            go_region_held3 (fun _ => True) (trivial)
                              ((refine step_append_out _ (by rfl) _ _ 28 (by rfl) 5 Tryd.underlying28 info5u w.heap.size (le_alloc _ _ (by omega)) _ out (by rfl) (HOL.out.below (below_comp hb2 (by first | exact Below.refl _ _ | exact (Below.refl _ _).drew | exact (Below.refl _ _).alloc (Nat.le_refl _) _ | exact ((Below.refl _ _).alloc (Nat.le_refl _) _).drew))) _ 1 _ [UInt8.ofNat 12] (by rfl) rfl (by decide) (cell_one _ (by rfl) (heap_alloc_new _ _)) (by omega) ?_; intro v4 w4 hown4 hb4))
                            all_goals
                              have hbE : Below w.heap.size wr w4 := ((below_comp hb2 (by first | exact Below.refl _ _ | exact (Below.refl _ _).drew | exact (Below.refl _ _).alloc (Nat.le_refl _) _ | exact ((Below.refl _ _).alloc (Nat.le_refl _) _).drew)).mono HB.out.size).trans hb4
                              go_wp2_with fail
                              go_roundw
                              case rel => exact ⟨l3, _, hv3.kept (hbE.block gg HGG.out), .inl hown4, HA3.out, HB.out.trans hbE, by simp at hlr; omega, by simp at ho4 ⊢; omega⟩
                              case measure => exact slen_lt hv3 HVL.out (by simp <;> omega)
                        · have hn102 : ((d.toNat : Int) == 102) = false := by simp; omega
                          by_cases hd110 : d.toNat = 110
                          · have HA3 : Hid (strA r [] = strA l3 (out ++ [UInt8.ofNat 10])) := hid (by rw [HA2.out, escJ_cons, if_neg (by omega), hd110]; rfl)
                            as_aux_lemma =>
                              have hy110 : ((d.toNat : Int) == 110) = true := by simp; omega
                              obtain ⟨v3, hsl4, hv3⟩ := HSL.out
                              simp only [List.drop_succ_cons, List.drop_zero] at hv3
                              clear hd110 HSL
                              go_upto_region 36 with fail
                              go_region_held3 (fun _ => True) (trivial)
                                ((refine step_append_out _ (by rfl) _ _ 28 (by rfl) 5 Tryd.underlying28 info5u w.heap.size (le_alloc _ _ (by omega)) _ out (by rfl) (HOL.out.below (below_comp hb2 (by first | exact Below.refl _ _ | exact (Below.refl _ _).drew | exact (Below.refl _ _).alloc (Nat.le_refl _) _ | exact ((Below.refl _ _).alloc (Nat.le_refl _) _).drew))) _ 1 _ [UInt8.ofNat 10] (by rfl) rfl (by decide) (cell_one _ (by rfl) (heap_alloc_new _ _)) (by omega) ?_; intro v4 w4 hown4 hb4))
                              all_goals
                                have hbE : Below w.heap.size wr w4 := ((below_comp hb2 (by first | exact Below.refl _ _ | exact (Below.refl _ _).drew | exact (Below.refl _ _).alloc (Nat.le_refl _) _ | exact ((Below.refl _ _).alloc (Nat.le_refl _) _).drew)).mono HB.out.size).trans hb4
                                go_wp2_with fail
                                go_roundw
                                case rel => exact ⟨l3, _, hv3.kept (hbE.block gg HGG.out), .inl hown4, HA3.out, HB.out.trans hbE, by simp at hlr; omega, by simp at ho4 ⊢; omega⟩
                                case measure => exact slen_lt hv3 HVL.out (by simp <;> omega)
                          · have hn110 : ((d.toNat : Int) == 110) = false := by simp; omega
                            by_cases hd114 : d.toNat = 114
                            · have HA3 : Hid (strA r [] = strA l3 (out ++ [UInt8.ofNat 13])) := hid (by rw [HA2.out, escJ_cons, if_neg (by omega), hd114]; rfl)
                              as_aux_lemma =>
                                have hy114 : ((d.toNat : Int) == 114) = true := by simp; omega
                                obtain ⟨v3, hsl4, hv3⟩ := HSL.out
                                simp only [List.drop_succ_cons, List.drop_zero] at hv3
                                clear hd114 HSL
                                go_upto_region 38 with fail
                                go_region_held3 (fun _ => True) (trivial)
                                  ((refine step_append_out _ (by rfl) _ _ 28 (by rfl) 5 Tryd.underlying28 info5u w.heap.size (le_alloc _ _ (by omega)) _ out (by rfl) (HOL.out.below (below_comp hb2 (by first | exact Below.refl _ _ | exact (Below.refl _ _).drew | exact (Below.refl _ _).alloc (Nat.le_refl _) _ | exact ((Below.refl _ _).alloc (Nat.le_refl _) _).drew))) _ 1 _ [UInt8.ofNat 13] (by rfl) rfl (by decide) (cell_one _ (by rfl) (heap_alloc_new _ _)) (by omega) ?_; intro v4 w4 hown4 hb4))
                                all_goals
                                  have hbE : Below w.heap.size wr w4 := ((below_comp hb2 (by first | exact Below.refl _ _ | exact (Below.refl _ _).drew | exact (Below.refl _ _).alloc (Nat.le_refl _) _ | exact ((Below.refl _ _).alloc (Nat.le_refl _) _).drew)).mono HB.out.size).trans hb4
                                  go_wp2_with fail
                                  go_roundw
                                  case rel => exact ⟨l3, _, hv3.kept (hbE.block gg HGG.out), .inl hown4, HA3.out, HB.out.trans hbE, by simp at hlr; omega, by simp at ho4 ⊢; omega⟩
                                  case measure => exact slen_lt hv3 HVL.out (by simp <;> omega)
                            · have hn114 : ((d.toNat : Int) == 114) = false := by simp; omega
                              by_cases hd116 : d.toNat = 116
                              · have HA3 : Hid (strA r [] = strA l3 (out ++ [UInt8.ofNat 9])) := hid (by rw [HA2.out, escJ_cons, if_neg (by omega), hd116]; rfl)
                                as_aux_lemma =>
                                  have hy116 : ((d.toNat : Int) == 116) = true := by simp; omega
                                  obtain ⟨v3, hsl4, hv3⟩ := HSL.out
                                  simp only [List.drop_succ_cons, List.drop_zero] at hv3
                                  clear hd116 HSL
                                  go_upto_region 40 with fail
                                  go_region_held3 (fun _ => True) (trivial)
                                    ((refine step_append_out _ (by rfl) _ _ 28 (by rfl) 5 Tryd.underlying28 info5u w.heap.size (le_alloc _ _ (by omega)) _ out (by rfl) (HOL.out.below (below_comp hb2 (by first | exact Below.refl _ _ | exact (Below.refl _ _).drew | exact (Below.refl _ _).alloc (Nat.le_refl _) _ | exact ((Below.refl _ _).alloc (Nat.le_refl _) _).drew))) _ 1 _ [UInt8.ofNat 9] (by rfl) rfl (by decide) (cell_one _ (by rfl) (heap_alloc_new _ _)) (by omega) ?_; intro v4 w4 hown4 hb4))
                                  all_goals
                                    have hbE : Below w.heap.size wr w4 := ((below_comp hb2 (by first | exact Below.refl _ _ | exact (Below.refl _ _).drew | exact (Below.refl _ _).alloc (Nat.le_refl _) _ | exact ((Below.refl _ _).alloc (Nat.le_refl _) _).drew)).mono HB.out.size).trans hb4
                                    go_wp2_with fail
                                    go_roundw
                                    case rel => exact ⟨l3, _, hv3.kept (hbE.block gg HGG.out), .inl hown4, HA3.out, HB.out.trans hbE, by simp at hlr; omega, by simp at ho4 ⊢; omega⟩
                                    case measure => exact slen_lt hv3 HVL.out (by simp <;> omega)
                              · have hn116 : ((d.toNat : Int) == 116) = false := by simp; omega
                                by_cases hd117 : d.toNat = 117
                                · have hy : ((d.toNat : Int) == 117) = true := by simp; omega
                                  have HA3 : Hid (strA r [] = (match escU (b :: d :: l3) with
                                    | none => none
                                    | some (bb, m) => strA ((b :: d :: l3).drop m) (out ++ bb))) := hid (by rw [HA2.out, escJ_cons, if_pos hd117])
                                  clear hd117 HA2 HSL
                                  by_cases h6 : l3.length < 4
                                  · as_aux_lemma =>
                                      have HN : Hid (strJ (c0 :: r) = none) := hid (strJ_no (HA3.out.trans (by rw [escU_short h6])))
                                      have hgl3 := (hb2.cell (World.block_lt_of_cell? _ _ hgl)).trans hgl
                                      have h6i : ((b :: d :: l3).length : Int) < 6 := by simp <;> omega
                                      go_upto_region 43 with (first | ((with_reducible refine is_len ?_); refine wpList_len_view _ (by rfl) _ 28 5 rfl Tryd.underlying28 _ _ _ rfl (HVL.out.below hb2) ?_) | fail)
                                      go_quiet (fail)
                                      go_wp2_with fail
                                      go_ret3
                                      exact ⟨StrRes.bad HN.out _ _, (below_comp HB.out hb2).trans ⟨rfl, rfl, rfl, Nat.le_refl _, fun _ _ => rfl⟩⟩
                                  · have h6i : ¬ ((b :: d :: l3).length : Int) < 6 := by simp <;> omega
                                    have HT4 : Hid ((l3.take 4).length = 4) := hid (by simp; omega)
                                    have h6le : (6 : Int) ≤ ((b :: d :: l3).length : Int) := by simp <;> omega
                                    rcases hx : hexN 0 (l3.take 4) with _ | x1
                                    · as_aux_lemma =>
                                        have HN : Hid (strJ (c0 :: r) = none) := hid (strJ_no (HA3.out.trans (by rw [escU_bad h6 hx])))
                                        have HX := hid hx
                                        obtain ⟨aoU, cpU, hslU, hvU⟩ := view_upto (P := Tryd.prog) HVL.out 28 5 Tryd.underlying28 info5u .i64 6 6 rfl (by simp; omega)
                                        clear hx hvU
                                        go_upto_region 46 with (first
                                          | ((with_reducible refine is_len ?_); refine wpList_len_view _ (by rfl) _ 28 5 rfl Tryd.underlying28 _ _ _ rfl (HVL.out.below hb2) ?_)
                                          | ((with_reducible refine is_both ?_); refine wpList_slice_view _ (by rfl) _ _ _ 28 5 rfl Tryd.underlying28 info5u _ _ _ rfl (HVL.out.below hb2) _ _ (2 : Int) (6 : Int) rfl rfl (by decide) (by decide) h6le ?_; intro vs1 hvs1)
                                          | ((with_reducible refine is_conv ?_); refine wpList_string_view _ (by rfl) _ 28 9 5 rfl Tryd.underlying28 Tryd.underlying5 Tryd.underlying9 _ _ _ rfl hvs1 ?_)
                                          | (go_at_call 84; refine (parseUint_none (l3.take 4) _ HT4.out HX.out (HDR.out _ hb2).glob.syn).mono ?_; rintro e w3 ⟨⟨te3, x3, rfl⟩, hb3⟩)
                                          | fail)
                                        have hb23 := below_comp hb2 hb3
                                        clear hb2s
                                        go_region_held3 (fun _ => True) (trivial) (first | (go_at_call 51; refine (currPos_any _ _ (HDR.out _ (below_comp hb23 (by first | exact Below.refl _ _ | exact (Below.refl _ _).drew | exact (Below.refl _ _).alloc (Nat.le_refl _) _ | exact ((Below.refl _ _).alloc (Nat.le_refl _) _).drew)))).mono ?_; rintro e w7 ⟨rfl, hb7⟩) | (go_at_call 49; refine (newError_any _ _ _ _ _ (by decide)).mono ?_; rintro e w4 ⟨⟨x, rfl⟩, hb4⟩))
                                        all_goals
                                          go_wp2_with fail
                                          go_ret3
                                          exact ⟨StrRes.bad HN.out _ _, below_comp (below_comp (below_comp (below_comp (below_comp HB.out hb23) (by first | exact Below.refl _ _ | exact (Below.refl _ _).drew | exact (Below.refl _ _).alloc (Nat.le_refl _) _ | exact ((Below.refl _ _).alloc (Nat.le_refl _) _).drew)) hb7) (by first | exact Below.refl _ _ | exact (Below.refl _ _).drew | exact (Below.refl _ _).alloc (Nat.le_refl _) _ | exact ((Below.refl _ _).alloc (Nat.le_refl _) _).drew)) hb4⟩
                                    · have HX := hid hx
                                      have hx1 : x1 < 65536 := by have := hexN_lt _ _ _ hx; rw [HT4.out] at this; omega
                                      clear hx
                                      go_upto_region 49 with (first
                                        | ((with_reducible refine is_len ?_); refine wpList_len_view _ (by rfl) _ 28 5 rfl Tryd.underlying28 _ _ _ rfl (HVL.out.below hb2) ?_)
                                        | ((with_reducible refine is_both ?_); refine wpList_slice_view _ (by rfl) _ _ _ 28 5 rfl Tryd.underlying28 info5u _ _ _ rfl (HVL.out.below hb2) _ _ (2 : Int) (6 : Int) rfl rfl (by decide) (by decide) h6le ?_; intro vs1 hvs1)
                                        | ((with_reducible refine is_conv ?_); refine wpList_string_view _ (by rfl) _ 28 9 5 rfl Tryd.underlying28 Tryd.underlying5 Tryd.underlying9 _ _ _ rfl hvs1 ?_)
                                        | (go_at_call 84; refine (parseUint_some (l3.take 4) x1 _ HT4.out HX.out).mono ?_; rintro e w3 ⟨rfl, hb3⟩)
                                        | ((with_reducible refine is_from ?_); refine wpList_slice_from _ (by rfl) _ _ 28 5 rfl Tryd.underlying28 info5u _ _ _ rfl (HVL.out.below (below_comp hb2 hb3)) _ (6 : Int) rfl (by decide) h6le ?_; intro vs2 hvs2)
                                        | fail)
                                      replace hvs2 : View w3 gg vs2 (l3.drop 4) := hvs2
                                      have hb23 := below_comp hb2 hb3
                                      cases hs : surrB x1 with
                                      | false =>
                                        as_aux_lemma =>
                                          have HA4 : Hid (strA r [] = strA (l3.drop 4) (out ++ encU x1)) := hid (by rw [HA3.out, escU_one h6 HX.out hs]; rfl)
                                          have HENC := hid (enc_str (c := x1) (by unfold surrB at hs; simp at hs; omega))
                                          have HS := hid hs
                                          clear hs
                                          go_upto_region 57 with (first
                                            | (go_at_call 85; refine (isSurr_any _ _).mono ?_; rintro e w' ⟨rfl, rfl⟩; rw [HS.out])
                                            | fail)
                                          have henc := HENC.out
                                          go_wp2_with (first
                                            | ((with_reducible refine is_append ?_); refine wpList_append_out_str _ (by rfl) _ _ 28 9 (by rfl) 5 Tryd.underlying28 Tryd.underlying9 info5u w.heap.size (by have := hb3.size; omega) _ out (by rfl) (HOL.out.below hb23) (encU x1) (by rfl) (encU_pos _) (by have := encU_le x1; omega) ?_; intro v4 w4 hown4 hb4)
                                            | fail)
                                          have hbE : Below w.heap.size wr w4 := (hb23.mono HB.out.size).trans hb4
                                          go_roundw
                                          case rel => exact ⟨_, _, hvs2.keptB hb4 HGG.out, .inl hown4, HA4.out, HB.out.trans hbE, by simp at hlr ⊢; omega, by have := encU_le x1; simp at ho4 ⊢; omega⟩
                                          case measure => exact slen_lt hvs2 HVL.out (by simp <;> omega)
                                      | true =>
                                        have HS := hid hs
                                        clear hs
                                        go_upto_region 50 with (first
                                          | (go_at_call 85; refine (isSurr_any _ _).mono ?_; rintro e w' ⟨rfl, rfl⟩; rw [HS.out])
                                          | fail)
                                        by_cases h46 : (l3.drop 4).length < 6
                                        · as_aux_lemma =>
                                            have HN : Hid (strJ (c0 :: r) = none) := hid (strJ_no (HA3.out.trans (by rw [escU_short2 h6 HX.out HS.out h46])))
                                            have hgl3 := (hb23.cell (World.block_lt_of_cell? _ _ hgl)).trans hgl
                                            have h46i : ((l3.length - 4 : Nat) : Int) < 6 := by simp at h46; omega
                                            have h46j : l3.length - 4 < 6 := by simp at h46; omega
                                            go_upto_region 51 with (first | ((with_reducible refine is_len ?_); refine wpList_len_view _ (by rfl) _ 28 5 rfl Tryd.underlying28 _ _ _ rfl hvs2 ?_) | fail)
                                            go_quiet (fail)
                                            go_wp2_with fail
                                            go_ret3
                                            exact ⟨StrRes.bad HN.out _ _, (below_comp HB.out hb23).trans ⟨rfl, rfl, rfl, Nat.le_refl _, fun _ _ => rfl⟩⟩
                                        · have h46i : decide ((((l3.drop 4).length : Nat) : Int) < 6) = false := by simp only [decide_eq_false_iff_not]; omega
                                          obtain ⟨e1, f1, l5, hl4⟩ : ∃ e1 f1 l5, l3.drop 4 = e1 :: f1 :: l5 := by
                                            rcases hq : l3.drop 4 with _ | ⟨e1, _ | ⟨f1, l5⟩⟩
                                            · rw [hq] at h46; simp at h46
                                            · rw [hq] at h46; simp at h46
                                            · exact ⟨e1, f1, l5, rfl⟩
                                          have h5l : 4 ≤ l5.length := by rw [hl4] at h46; simp at h46; omega
                                          have hl3l : l3.length = l5.length + 6 := by have := congrArg List.length hl4; simp at this; omega
                                          rw [hl4] at hvs2
                                          have HV2 := hid hvs2
                                          have h46n : ¬ ((e1 :: f1 :: l5).length : Int) < 6 := by simp <;> omega
                                          have h6le2 : (6 : Int) ≤ ((e1 :: f1 :: l5).length : Int) := by simp <;> omega
                                          have HT5 : Hid ((l5.take 4).length = 4) := hid (by simp; omega)
                                          clear hvs2 h46 h46i
                                          rcases hx2 : hexN 0 (l5.take 4) with _ | x2
                                          · as_aux_lemma =>
                                              have HN : Hid (strJ (c0 :: r) = none) := hid (strJ_no (HA3.out.trans (by rw [escU_more h6 HX.out HS.out hl4 h5l, hx2])))
                                              have HX2 := hid hx2
                                              have hpz := pairR_zero x1
                                              have HSLU := hid (view_upto (P := Tryd.prog) HV2.out 28 5 Tryd.underlying28 info5u .i64 6 6 rfl (by simp; omega))
                                              clear hx2
                                              go_upto_region 53 with (first
                                                | ((with_reducible refine is_len ?_); refine wpList_len_view _ (by rfl) _ 28 5 rfl Tryd.underlying28 _ _ _ rfl HV2.out ?_)
                                                | ((with_reducible refine is_both ?_); refine wpList_slice_view _ (by rfl) _ _ _ 28 5 rfl Tryd.underlying28 info5u _ _ _ rfl HV2.out _ _ (2 : Int) (6 : Int) rfl rfl (by decide) (by decide) h6le2 ?_; intro vs3 hvs3)
                                                | ((with_reducible refine is_conv ?_); refine wpList_string_view _ (by rfl) _ 28 9 5 rfl Tryd.underlying28 Tryd.underlying5 Tryd.underlying9 _ _ _ rfl hvs3 ?_)
                                                | (go_at_call 84; refine (parseUint_none (l5.take 4) _ HT5.out HX2.out (HDR.out _ hb23).glob.syn).mono ?_; rintro e w5 ⟨⟨te5, x5, rfl⟩, hb5⟩)
                                                | fail)
                                              have hb25 := below_comp hb23 hb5
                                              obtain ⟨aoU, cpU, hslU, hvU⟩ := HSLU.out
                                              clear hvU
                                              by_cases he92 : ((e1.toNat : Int) != 92) = true
                                              · go_upto_region 55 with (first
                                                | (go_at_call 86; refine (pair_any _ _ _).mono ?_; rintro e w' ⟨rfl, rfl⟩)
                                                | ((with_reducible refine is_index ?_); refine wpList_index_view _ (by rfl) _ _ 28 5 rfl Tryd.underlying28 info5u _ _ _ rfl (HV2.out.below hb5) _ (0 : Int) rfl (by decide) (by simp) ?_; intro ad3 hc3; simp only [Int.toNat_zero, List.getElem_cons_zero] at hc3)
                                                | ((with_reducible refine is_index ?_); refine wpList_index_view _ (by rfl) _ _ 28 5 rfl Tryd.underlying28 info5u _ _ _ rfl (HV2.out.below hb5) _ (1 : Int) rfl (by decide) (by simp) ?_; intro ad4 hc4; simp only [Int.toNat_one, List.getElem_cons_succ, List.getElem_cons_zero] at hc4)
                                                  | fail)
                                                go_region_held3 (fun _ => True) (trivial) (first | (go_at_call 51; refine (currPos_any _ _ (HDR.out _ (below_comp hb25 (by first | exact Below.refl _ _ | exact (Below.refl _ _).drew | exact (Below.refl _ _).alloc (Nat.le_refl _) _ | exact ((Below.refl _ _).alloc (Nat.le_refl _) _).drew)))).mono ?_; rintro e w7 ⟨rfl, hb7⟩) | (go_at_call 49; refine (newError_any _ _ _ _ _ (by decide)).mono ?_; rintro e w4 ⟨⟨x, rfl⟩, hb4⟩))
                                                all_goals
                                                  go_wp2_with fail
                                                  go_ret3
                                                  exact ⟨StrRes.bad HN.out _ _, below_comp (below_comp (below_comp (below_comp (below_comp HB.out hb25) (by first | exact Below.refl _ _ | exact (Below.refl _ _).drew | exact (Below.refl _ _).alloc (Nat.le_refl _) _ | exact ((Below.refl _ _).alloc (Nat.le_refl _) _).drew)) hb7) (by first | exact Below.refl _ _ | exact (Below.refl _ _).drew | exact (Below.refl _ _).alloc (Nat.le_refl _) _ | exact ((Below.refl _ _).alloc (Nat.le_refl _) _).drew)) hb4⟩
                                              · have he92' : ((e1.toNat : Int) != 92) = false := by simpa using he92
                                                clear he92
                                                by_cases hf117 : ((f1.toNat : Int) != 117) = true
                                                · go_upto_region 55 with (first
                                                | (go_at_call 86; refine (pair_any _ _ _).mono ?_; rintro e w' ⟨rfl, rfl⟩)
                                                | ((with_reducible refine is_index ?_); refine wpList_index_view _ (by rfl) _ _ 28 5 rfl Tryd.underlying28 info5u _ _ _ rfl (HV2.out.below hb5) _ (0 : Int) rfl (by decide) (by simp) ?_; intro ad3 hc3; simp only [Int.toNat_zero, List.getElem_cons_zero] at hc3)
                                                | ((with_reducible refine is_index ?_); refine wpList_index_view _ (by rfl) _ _ 28 5 rfl Tryd.underlying28 info5u _ _ _ rfl (HV2.out.below hb5) _ (1 : Int) rfl (by decide) (by simp) ?_; intro ad4 hc4; simp only [Int.toNat_one, List.getElem_cons_succ, List.getElem_cons_zero] at hc4)
                                                    | fail)
                                                  go_region_held3 (fun _ => True) (trivial) (first | (go_at_call 51; refine (currPos_any _ _ (HDR.out _ (below_comp hb25 (by first | exact Below.refl _ _ | exact (Below.refl _ _).drew | exact (Below.refl _ _).alloc (Nat.le_refl _) _ | exact ((Below.refl _ _).alloc (Nat.le_refl _) _).drew)))).mono ?_; rintro e w7 ⟨rfl, hb7⟩) | (go_at_call 49; refine (newError_any _ _ _ _ _ (by decide)).mono ?_; rintro e w4 ⟨⟨x, rfl⟩, hb4⟩))
                                                  all_goals
                                                    go_wp2_with fail
                                                    go_ret3
                                                    exact ⟨StrRes.bad HN.out _ _, below_comp (below_comp (below_comp (below_comp (below_comp HB.out hb25) (by first | exact Below.refl _ _ | exact (Below.refl _ _).drew | exact (Below.refl _ _).alloc (Nat.le_refl _) _ | exact ((Below.refl _ _).alloc (Nat.le_refl _) _).drew)) hb7) (by first | exact Below.refl _ _ | exact (Below.refl _ _).drew | exact (Below.refl _ _).alloc (Nat.le_refl _) _ | exact ((Below.refl _ _).alloc (Nat.le_refl _) _).drew)) hb4⟩
                                                · have hf117' : ((f1.toNat : Int) != 117) = false := by simpa using hf117
                                                  clear hf117
                                                  go_upto_region 55 with (first
                                                | (go_at_call 86; refine (pair_any _ _ _).mono ?_; rintro e w' ⟨rfl, rfl⟩; rw [hpz])
                                                | ((with_reducible refine is_index ?_); refine wpList_index_view _ (by rfl) _ _ 28 5 rfl Tryd.underlying28 info5u _ _ _ rfl (HV2.out.below hb5) _ (0 : Int) rfl (by decide) (by simp) ?_; intro ad3 hc3; simp only [Int.toNat_zero, List.getElem_cons_zero] at hc3)
                                                | ((with_reducible refine is_index ?_); refine wpList_index_view _ (by rfl) _ _ 28 5 rfl Tryd.underlying28 info5u _ _ _ rfl (HV2.out.below hb5) _ (1 : Int) rfl (by decide) (by simp) ?_; intro ad4 hc4; simp only [Int.toNat_one, List.getElem_cons_succ, List.getElem_cons_zero] at hc4)
                                                    | fail)
                                                  go_region_held3 (fun _ => True) (trivial) (first | (go_at_call 51; refine (currPos_any _ _ (HDR.out _ (below_comp hb25 (by first | exact Below.refl _ _ | exact (Below.refl _ _).drew | exact (Below.refl _ _).alloc (Nat.le_refl _) _ | exact ((Below.refl _ _).alloc (Nat.le_refl _) _).drew)))).mono ?_; rintro e w7 ⟨rfl, hb7⟩) | (go_at_call 49; refine (newError_any _ _ _ _ _ (by decide)).mono ?_; rintro e w4 ⟨⟨x, rfl⟩, hb4⟩))
                                                  all_goals
                                                    go_wp2_with fail
                                                    go_ret3
                                                    exact ⟨StrRes.bad HN.out _ _, below_comp (below_comp (below_comp (below_comp (below_comp HB.out hb25) (by first | exact Below.refl _ _ | exact (Below.refl _ _).drew | exact (Below.refl _ _).alloc (Nat.le_refl _) _ | exact ((Below.refl _ _).alloc (Nat.le_refl _) _).drew)) hb7) (by first | exact Below.refl _ _ | exact (Below.refl _ _).drew | exact (Below.refl _ _).alloc (Nat.le_refl _) _ | exact ((Below.refl _ _).alloc (Nat.le_refl _) _).drew)) hb4⟩
                                          · as_aux_lemma =>
                                              have HX2 := hid hx2
                                              have HSLU := hid (view_upto (P := Tryd.prog) HV2.out 28 5 Tryd.underlying28 info5u .i64 6 6 rfl (by simp; omega))
                                              have hx2l : x2 < 65536 := by have := hexN_lt _ _ _ hx2; rw [HT5.out] at this; omega
                                              have HM := hid (escU_more (b := b) (d := d) h6 HX.out HS.out hl4 h5l)
                                              rw [hx2] at HM
                                              clear hx2
                                              go_upto_region 53 with (first
                                                | ((with_reducible refine is_len ?_); refine wpList_len_view _ (by rfl) _ 28 5 rfl Tryd.underlying28 _ _ _ rfl HV2.out ?_)
                                                | ((with_reducible refine is_both ?_); refine wpList_slice_view _ (by rfl) _ _ _ 28 5 rfl Tryd.underlying28 info5u _ _ _ rfl HV2.out _ _ (2 : Int) (6 : Int) rfl rfl (by decide) (by decide) h6le2 ?_; intro vs3 hvs3)
                                                | ((with_reducible refine is_conv ?_); refine wpList_string_view _ (by rfl) _ 28 9 5 rfl Tryd.underlying28 Tryd.underlying5 Tryd.underlying9 _ _ _ rfl hvs3 ?_)
                                                | (go_at_call 84; refine (parseUint_some (l5.take 4) x2 _ HT5.out HX2.out).mono ?_; rintro e w5 ⟨rfl, hb5⟩)
                                                | fail)
                                              have hb25 := below_comp hb23 hb5
                                              by_cases hok : e1.toNat = 92 ∧ f1.toNat = 117 ∧ pairR x1 x2 ≠ 65533
                                              · have HA4 : Hid (strA r [] = strA ((b :: d :: l3).drop 12) (out ++ encU (pairR x1 x2))) := hid (by rw [HA3.out, HM.out]; (try simp only); rw [if_pos hok])
                                                have HPR := hid (pairR_ok hok.2.2)
                                                have HENC := hid (enc_str (c := pairR x1 x2) (by have := HPR.out; omega))
                                                have q1 : ((e1.toNat : Int) != 92) = false := by simp; omega
                                                have q2 : ((f1.toNat : Int) != 117) = false := by simp; omega
                                                have q3 : ((pairR x1 x2 : Int) == 65533) = false := by have := hok.2.2; simp; omega
                                                clear hok HSLU HM
                                                obtain ⟨v6, hsl6, hv6⟩ := view_from (P := Tryd.prog) HV2.out 28 5 Tryd.underlying28 info5u .i64 6 6 rfl (by simp; omega)
                                                go_upto_region 57 with (first
                                                | (go_at_call 86; refine (pair_any _ _ _).mono ?_; rintro e w' ⟨rfl, rfl⟩)
                                                | ((with_reducible refine is_index ?_); refine wpList_index_view _ (by rfl) _ _ 28 5 rfl Tryd.underlying28 info5u _ _ _ rfl (HV2.out.below hb5) _ (0 : Int) rfl (by decide) (by simp) ?_; intro ad3 hc3; simp only [Int.toNat_zero, List.getElem_cons_zero] at hc3)
                                                | ((with_reducible refine is_index ?_); refine wpList_index_view _ (by rfl) _ _ 28 5 rfl Tryd.underlying28 info5u _ _ _ rfl (HV2.out.below hb5) _ (1 : Int) rfl (by decide) (by simp) ?_; intro ad4 hc4; simp only [Int.toNat_one, List.getElem_cons_succ, List.getElem_cons_zero] at hc4)
                                                  | fail)
                                                have henc := HENC.out
                                                go_wp2_with (first
                                                  | ((with_reducible refine is_append ?_); refine wpList_append_out_str _ (by rfl) _ _ 28 9 (by rfl) 5 Tryd.underlying28 Tryd.underlying9 info5u w.heap.size (by have := hb25.size; omega) _ out (by rfl) (HOL.out.below hb25) (encU (pairR x1 x2)) (by rfl) (encU_pos _) (by have := encU_le (pairR x1 x2); omega) ?_; intro v4 w4 hown4 hb4)
                                                  | fail)
                                                have hbE : Below w.heap.size wr w4 := (hb25.mono HB.out.size).trans hb4
                                                have hv7 : View w3 gg v6 ((b :: d :: l3).drop 12) := by
                                                  have : (b :: d :: l3).drop 12 = (e1 :: f1 :: l5).drop 6 := by rw [← hl4]; simp [List.drop_drop]
                                                  rw [this]; exact hv6
                                                go_roundw
                                                case rel => exact ⟨_, _, hv7.keptB ((hb5.mono (Nat.le_trans HB.out.size hb23.size)).trans hb4) HGG.out, .inl hown4, HA4.out, HB.out.trans hbE, by simp at hlr hl3l ⊢; omega, by have := encU_le (pairR x1 x2); simp at ho4 hl3l ⊢; omega⟩
                                                case measure => exact slen_lt hv7 HVL.out (by simp at hl3l ⊢; omega)
                                              · have HN : Hid (strJ (c0 :: r) = none) := hid (strJ_no (HA3.out.trans (by rw [HM.out]; (try simp only); rw [if_neg hok])))
                                                have hcs : ((e1.toNat : Int) != 92) = true ∨ ((e1.toNat : Int) != 92) = false ∧ (((f1.toNat : Int) != 117) = true ∨ ((f1.toNat : Int) != 117) = false ∧ ((pairR x1 x2 : Int) == 65533) = true) := by
                                                  simp at hok ⊢; omega
                                                obtain ⟨aoU, cpU, hslU, hvU⟩ := HSLU.out
                                                clear hvU hok HM
                                                rcases hcs with q1 | ⟨q1, q2 | ⟨q2, q3⟩⟩
                                                all_goals
                                                  go_upto_region 55 with (first
                                                | (go_at_call 86; refine (pair_any _ _ _).mono ?_; rintro e w' ⟨rfl, rfl⟩)
                                                | ((with_reducible refine is_index ?_); refine wpList_index_view _ (by rfl) _ _ 28 5 rfl Tryd.underlying28 info5u _ _ _ rfl (HV2.out.below hb5) _ (0 : Int) rfl (by decide) (by simp) ?_; intro ad3 hc3; simp only [Int.toNat_zero, List.getElem_cons_zero] at hc3)
                                                | ((with_reducible refine is_index ?_); refine wpList_index_view _ (by rfl) _ _ 28 5 rfl Tryd.underlying28 info5u _ _ _ rfl (HV2.out.below hb5) _ (1 : Int) rfl (by decide) (by simp) ?_; intro ad4 hc4; simp only [Int.toNat_one, List.getElem_cons_succ, List.getElem_cons_zero] at hc4)
                                                    | fail)
                                                  go_region_held3 (fun _ => True) (trivial) (first | (go_at_call 51; refine (currPos_any _ _ (HDR.out _ (below_comp hb25 (by first | exact Below.refl _ _ | exact (Below.refl _ _).drew | exact (Below.refl _ _).alloc (Nat.le_refl _) _ | exact ((Below.refl _ _).alloc (Nat.le_refl _) _).drew)))).mono ?_; rintro e w7 ⟨rfl, hb7⟩) | (go_at_call 49; refine (newError_any _ _ _ _ _ (by decide)).mono ?_; rintro e w4 ⟨⟨x, rfl⟩, hb4⟩))
                                                  all_goals
                                                    go_wp2_with fail
                                                    go_ret3
                                                    exact ⟨StrRes.bad HN.out _ _, below_comp (below_comp (below_comp (below_comp (below_comp HB.out hb25) (by first | exact Below.refl _ _ | exact (Below.refl _ _).drew | exact (Below.refl _ _).alloc (Nat.le_refl _) _ | exact ((Below.refl _ _).alloc (Nat.le_refl _) _).drew)) hb7) (by first | exact Below.refl _ _ | exact (Below.refl _ _).drew | exact (Below.refl _ _).alloc (Nat.le_refl _) _ | exact ((Below.refl _ _).alloc (Nat.le_refl _) _).drew)) hb4⟩
                                · have hn117 : ((d.toNat : Int) == 117) = false := by simp; omega
                                  have HN : Hid (strJ (c0 :: r) = none) := hid (strJ_no (HA2.out.trans (by rw [escJ_cons, if_neg hd117, if_pos (escC_no ⟨hd34, hd92, hd47, hd98, hd102, hd110, hd114, hd116⟩)])))
                                  as_aux_lemma =>
                                    obtain ⟨aoU, cpU, hslU, hvU⟩ := view_upto (P := Tryd.prog) HVL.out 28 5 Tryd.underlying28 info5u .i64 2 2 rfl (by simp)
                                    clear hvU HSL
                                    go_upto_region 26 with fail
                                    go_region_held3 (fun _ => True) (trivial) (first | (go_at_call 51; refine (currPos_any _ _ (HDR.out _ (below_comp hb2 (by first | exact Below.refl _ _ | exact (Below.refl _ _).drew | exact (Below.refl _ _).alloc (Nat.le_refl _) _ | exact ((Below.refl _ _).alloc (Nat.le_refl _) _).drew)))).mono ?_; rintro e w3 ⟨rfl, hb3⟩) | (go_at_call 49; refine (newError_any _ _ _ _ _ (by decide)).mono ?_; rintro e w4 ⟨⟨x, rfl⟩, hb4⟩))
                                    all_goals
                                      go_wp2_with fail
                                      go_ret3
                                      exact ⟨StrRes.bad HN.out _ _, below_comp (below_comp (below_comp (below_comp (below_comp HB.out hb2) (by first | exact Below.refl _ _ | exact (Below.refl _ _).drew | exact (Below.refl _ _).alloc (Nat.le_refl _) _ | exact ((Below.refl _ _).alloc (Nat.le_refl _) _).drew)) hb3) (by first | exact Below.refl _ _ | exact (Below.refl _ _).drew | exact (Below.refl _ _).alloc (Nat.le_refl _) _ | exact ((Below.refl _ _).alloc (Nat.le_refl _) _).drew)) hb4⟩
            · have HA2 : Hid (strA r [] = strA (l.drop (n + needAt (l.drop n))) (out ++ l.take (n + needAt (l.drop n)))) := hid (by
                rw [HST.out, HA.out, if_neg h34, if_neg h32, if_neg h92, strA_skip (l.drop n).length (l.drop n), List.drop_drop, List.append_assoc, List.take_add]; rfl)
              as_aux_lemma =>
                obtain ⟨i2, hi2⟩ : ∃ i2, i2 = needAt (l.drop n) := ⟨_, rfl⟩
                have hi2l : n + i2 ≤ l.length := by have := needN_le (l.drop n).length (l.drop n); rw [show needN (l.drop n).length (l.drop n) = needAt (l.drop n) from rfl, ← hi2] at this; simp at this; omega
                rw [← hi2] at HA2
                have HNB2 := hid fun (v' : Value) (w' : World) (hv' : View w' gg v' (l.drop n)) => needBytes_any v' (l.drop n) gg w' hv' (by simp; omega)
                rw [← hi2] at HNB2
                have hcs : ((c : Int) == 65533) = false ∨ ((c : Int) == 65533) = true ∧ ((n : Int) == 1) = false := by simp; omega
                have e2 : decide ((c : Int) < 32) = false := by simp; omega
                have e3 : ((c : Int) == 34) = false := by simp; omega
                have e4 : ((c : Int) == 92) = false := by simp; omega
                have hnl : (n : Int) ≤ (l.length : Int) := by omega
                obtain ⟨v6, hsl6, hv6⟩ := view_from (P := Tryd.prog) HVL.out 28 5 Tryd.underlying28 info5u .i64 ((n : Int) + (i2 : Int)) (n + i2) (by omega) hi2l
                obtain ⟨ao7, cp7, hsl7, hv7⟩ := view_upto (P := Tryd.prog) HVL.out 28 5 Tryd.underlying28 info5u .i64 ((n : Int) + (i2 : Int)) (n + i2) (by omega) hi2l
                have hwr : IntKind.i64.wrap ((n : Int) + (i2 : Int)) = (n : Int) + (i2 : Int) := wrap_small hm hlr hi2l
                have hn1 : 1 ≤ n + i2 := Nat.le_trans hsz.1 (Nat.le_add_right _ _)
                have hb2c := HB.out.size
                have hb2s := hb2.size
                obtain ⟨ad7, hao7, hcells7⟩ : ∃ ad : Addr, ao7 = some ad ∧ ∀ j u, (byteCells (l.take (n + i2)))[j]? = some u → wr.cell? (ad.add j) = some u := view_cells hv7 (take_pos hn1 hi2l)
                subst hao7
                clear hbad h32 h34 h92 hi2
                rcases hcs with e1 | ⟨e1, e5⟩
                all_goals
                  go_upto_region 12 with (first
                    | ((with_reducible refine is_from ?_); refine wpList_slice_from _ (by rfl) _ _ 28 5 rfl Tryd.underlying28 info5u _ _ _ rfl (HVL.out.below hb2) _ (n : Int) rfl (by omega) hnl ?_; intro vs1 hvs1; try simp only [Int.toNat_natCast] at hvs1)
                    | (go_at_call 82; refine (HNB2.out _ _ hvs1).mono ?_; rintro e w3 ⟨rfl, hb3⟩)
                    | fail)
                  have hb23 := below_comp hb2 hb3
                  have hb3s := hb3.size
                  go_region_held3 (fun _ => True) (trivial)
                    ((refine step_append_out _ (by rfl) _ _ 28 (by rfl) 5 Tryd.underlying28 info5u w.heap.size (by show _ ≤ w3.heap.size; omega) _ out (by rfl) (HOL.out.below (below_comp hb23 (by first | exact Below.refl _ _ | exact (Below.refl _ _).drew | exact (Below.refl _ _).alloc (Nat.le_refl _) _ | exact ((Below.refl _ _).alloc (Nat.le_refl _) _).drew))) ad7 (n + i2) cp7 (l.take (n + i2)) (by rfl) (by simp; omega) (by omega) (fun j u hu => ((below_comp hb23 (by first | exact Below.refl _ _ | exact (Below.refl _ _).drew | exact (Below.refl _ _).alloc (Nat.le_refl _) _ | exact ((Below.refl _ _).alloc (Nat.le_refl _) _).drew)).cell (World.block_lt_of_cell? _ _ (hcells7 j u hu))).trans (hcells7 j u hu)) (by omega) ?_; intro v4 w4 hown4 hb4))
                  all_goals
                    have hbE : Below w.heap.size wr w4 := ((below_comp hb23 (by first | exact Below.refl _ _ | exact (Below.refl _ _).drew | exact (Below.refl _ _).alloc (Nat.le_refl _) _ | exact ((Below.refl _ _).alloc (Nat.le_refl _) _).drew)).mono HB.out.size).trans hb4
                    go_wp2_with fail
                    go_roundw
                    case rel => exact ⟨_, _, hv6.kept (hbE.block gg HGG.out), .inl hown4, HA2.out, HB.out.trans hbE, by simp; omega, by simp; omega⟩
                    case measure => exact slen_lt hv6 HVL.out (by simp; omega)
end Go.Proofs.YtjkmmhnhhiopiaaDoor
