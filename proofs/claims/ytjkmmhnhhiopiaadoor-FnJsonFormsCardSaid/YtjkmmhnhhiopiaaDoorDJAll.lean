/-
  The thin package's three readings of JSON, walked: all tokens; with looking ahead; with a copy.
-/
import Derived.Test.YtjkmmhnhhiopiaaDoorDJRead
import Derived.Test.YtjkmmhnhhiopiaaDoorDNC
namespace Go.Proofs.YtjkmmhnhhiopiaaDoor
open Go.ChangeShapes Go.WideShapes Go.ChangeAt Go.RowKit

theorem OwnJ.low {w : World} {B B' : Nat} {v : Value} {l : List TK} (h : OwnJ w B v l) (hb : B' ≤ B) : OwnJ w B' v l := by
  refine ⟨h.1, ?_⟩
  rcases h.2 with hn | ⟨q, cap, cur, rfl, h1, rest⟩
  · exact .inl hn
  · exact .inr ⟨q, cap, cur, rfl, by omega, rest⟩
theorem BView.mono {w : World} {B B' : Nat} {v : Value} {ps : List Bool} (h : BView w B v ps) (hb : B ≤ B') : BView w B' v ps := by
  obtain ⟨ao, cap, rfl, h1⟩ := h
  refine ⟨ao, cap, rfl, fun j hj => ?_⟩
  obtain ⟨b, o, e1, e2, e3⟩ := h1 j hj
  exact ⟨b, o, e1, by omega, e3⟩
theorem JRes.low {B : Nat} {R : List TK × Bool} {w0 w w' : World} {e : Ending} (h : JRes B R w0 e w') (h0 : Below w.heap.size w w0) (hb : w.heap.size ≤ B) : JRes w.heap.size R w e w' := by
  obtain ⟨v, h1, h2, h3⟩ := h
  exact ⟨v, h1, h2.low hb, h0.trans (h3.mono hb)⟩
theorem Glob.below {w w' : World} (h : Glob w) (hb : Below w.heap.size w w') : Glob w' := h.kept fun k hk _ => hb.block k hk
/-- a new reader of the copied bytes -/
theorem newRead {p g : Nat} {bs : List UInt8} {v : Value} {w : World} (ps : List Bool) (vpk : Value) (h : DW p p g bs (.slice none 0 0) .nilIface (.slice none 0 0) v v DS.new w) (hm : bs.length ≤ 10000000) (hps : BView w p vpk ps) :
    Calls Tryd.prog 23 #[.pointer (some ⟨p, 0, none⟩), vpk, .slice none 0 0] w (JRes p (allJ bs ps) w) :=
  jsonRead_any ps DS.new [] (.slice none 0 0) vpk w (bs.length + 1) h hm (DS.good_new bs) rfl rfl (OwnJ.nil _ _) (fun e => by cases e) (fun e => by cases e) (fun k hk => by cases hk) hps (by simp) (by simp [DS.new])

set_option maxRecDepth 100000 in
theorem jsonTokens_any (v : Value) (bs : List UInt8) (g : Nat) (w : World) (hv : View w g v bs) (hm : bs.length ≤ 10000000) (hgl : Glob w) (h5 : 5 ≤ w.heap.size) :
    Calls Tryd.prog 11 #[v] w (JRes w.heap.size (allJ bs []) w) := by
  obtain ⟨ao, n, c, rfl⟩ := hv.slice3
  have HV := hid hv
  have HG := hid hgl
  have HR : Hid (∀ R e w0 w', JRes w0 R w' e w' → True) := hid fun _ _ _ _ _ => trivial
  clear hv hgl
  go_enter Tryd.func11, Tryd.ntmps11
  go_wp2_with (first
    | (go_at_call 25; refine (copied_any _ bs g _ HV.out (by omega)).mono ?_; rintro e w1 ⟨v1, g1, rfl, hv1, hg1, hl1, hb1⟩; obtain ⟨ao1, n1, c1, rfl⟩ := hv1.slice3; have HV1 := hid hv1; have HB1 := hid hb1; have hz1 := hb1.size; clear hv1 hb1)
    | (go_at_call 24; refine (newDecoder_any _ bs g1 _ HV1.out hl1 (HG.out.below HB1.out) (by omega)).mono ?_; rintro e w2 ⟨rfl, hd2, hb2⟩; have HD2 := hid hd2; have HB2 := hid hb2; clear hd2 hb2)
    | (go_at_call 23; refine (newRead [] _ HD2.out hm (BView.nil _ _)).mono ?_; rintro e w3 ⟨v3, rfl, ho3, hb3⟩)
    | fail)
  go_ret2
  have h3 : JRes w1.heap.size (allJ bs []) w2 (.returned (.tuple #[v3, .bool (allJ bs []).2])) w3 := ⟨v3, rfl, ho3, hb3⟩
  exact h3.low (below_comp HB1.out HB2.out) hz1
set_option maxRecDepth 100000 in
theorem jsonPeeks_any (v vpk : Value) (bs : List UInt8) (ps : List Bool) (g : Nat) (w : World) (hv : View w g v bs) (hps : BView w w.heap.size vpk ps) (hm : bs.length ≤ 10000000) (hgl : Glob w) (h5 : 5 ≤ w.heap.size) :
    Calls Tryd.prog 18 #[v, vpk] w (JRes w.heap.size (allJ bs ps) w) := by
  obtain ⟨ao, n, c, rfl⟩ := hv.slice3
  have HV := hid hv
  have HG := hid hgl
  have HP := hid hps
  obtain ⟨aoP, cP, rfl⟩ : ∃ ao c, vpk = .slice ao ps.length c := by obtain ⟨ao, c, e, _⟩ := hps; exact ⟨ao, c, e⟩
  clear hv hgl hps
  go_enter Tryd.func18, Tryd.ntmps18
  go_wp2_with (first
    | (go_at_call 25; refine (copied_any _ bs g _ HV.out (by omega)).mono ?_; rintro e w1 ⟨v1, g1, rfl, hv1, hg1, hl1, hb1⟩; obtain ⟨ao1, n1, c1, rfl⟩ := hv1.slice3; have HV1 := hid hv1; have HB1 := hid hb1; have hz1 := hb1.size; clear hv1 hb1)
    | (go_at_call 24; refine (newDecoder_any _ bs g1 _ HV1.out hl1 (HG.out.below HB1.out) (by omega)).mono ?_; rintro e w2 ⟨rfl, hd2, hb2⟩; have HD2 := hid hd2; have HB2 := hid hb2; clear hd2 hb2)
    | (go_at_call 23; refine (newRead ps _ HD2.out hm (((HP.out.below HB1.out).mono hz1).below HB2.out)).mono ?_; rintro e w3 ⟨v3, rfl, ho3, hb3⟩)
    | fail)
  go_ret2
  have h3 : JRes w1.heap.size (allJ bs ps) w2 (.returned (.tuple #[v3, .bool (allJ bs ps).2])) w3 := ⟨v3, rfl, ho3, hb3⟩
  exact h3.low (below_comp HB1.out HB2.out) hz1

theorem cloneJ_succ (bs : List UInt8) (n f : Nat) (s : DS) (l : List TK) : cloneJ bs n (f + 1) s l = if l.length < n then (match readJ bs s with
      | (_, false) => (l, false)
      | (s', true) => if s'.tok.kind = 1 then (l, true) else cloneJ bs n f s' (l ++ [s'.tok]))
    else runJ bs [] (f + 1) s l := rfl
theorem clone_step {bs : List UInt8} {n f : Nat} {s s' : DS} {l : List TK} (hn : l.length < n) (hf : bs.length + 1 ≤ f + s.k) (hk : s.k ≤ bs.length) (h : readJ bs s = (s', true)) (h1 : s'.tok.kind ≠ 1) :
    ∃ f', f = f' + 1 ∧ cloneJ bs n f s l = cloneJ bs n f' s' (l ++ [s'.tok]) := by
  obtain ⟨f', rfl⟩ : ∃ f', f = f' + 1 := ⟨f - 1, by omega⟩
  refine ⟨f', rfl, ?_⟩
  rw [cloneJ_succ, if_pos hn, h]
  simp only
  rw [if_neg h1]
theorem clone_end {bs : List UInt8} {n f : Nat} {s s' : DS} {l : List TK} (hn : l.length < n) (hf : bs.length + 1 ≤ f + s.k) (hk : s.k ≤ bs.length) (h : readJ bs s = (s', true)) (h1 : s'.tok.kind = 1) : cloneJ bs n f s l = (l, true) := by
  obtain ⟨f', rfl⟩ : ∃ f', f = f' + 1 := ⟨f - 1, by omega⟩
  rw [cloneJ_succ, if_pos hn, h]
  simp only
  rw [if_pos h1]
theorem clone_bad {bs : List UInt8} {n f : Nat} {s s' : DS} {l : List TK} (hn : l.length < n) (hf : bs.length + 1 ≤ f + s.k) (hk : s.k ≤ bs.length) (h : readJ bs s = (s', false)) : cloneJ bs n f s l = (l, false) := by
  obtain ⟨f', rfl⟩ : ∃ f', f = f' + 1 := ⟨f - 1, by omega⟩
  rw [cloneJ_succ, if_pos hn, h]
theorem clone_rest {bs : List UInt8} {n f : Nat} {s : DS} {l : List TK} (hn : ¬ l.length < n) (hf : bs.length + 1 ≤ f + s.k) (hk : s.k ≤ bs.length) : cloneJ bs n f s l = runJ bs [] f s l := by
  obtain ⟨f', rfl⟩ : ∃ f', f = f' + 1 := ⟨f - 1, by omega⟩
  rw [cloneJ_succ, if_neg hn]
def CInv (B p g : Nat) (bs : List UInt8) (n : Nat) (vo : Value) (w0 : World) (R : List TK × Bool) (v : Value) (wr : World) : Prop :=
  ∃ (s : DS) (l : List TK) (vr ve vst vi : Value) (f : Nat), DW B p g bs vr ve vst vo vi s wr ∧ OwnJ wr B v l ∧ v.ownBlock ≠ some p ∧ v.ownBlock ≠ some g ∧ (∀ k, v.ownBlock = some k → vst.ownBlock ≠ some k) ∧
    s.good bs ∧ s.peeked = false ∧ s.bad = false ∧ l.length ≤ s.k ∧ cloneJ bs n f s l = R ∧ bs.length + 1 ≤ f + s.k ∧ Below B w0 wr
set_option maxRecDepth 100000 in
set_option maxHeartbeats 4000000 in
theorem jsonClone_any (v : Value) (bs : List UInt8) (g : Nat) (n : Nat) (w : World) (hv : View w g v bs) (hm : bs.length ≤ 10000000) (hgl : Glob w) (h5 : 5 ≤ w.heap.size) :
    Calls Tryd.prog 22 #[v, .int .i64 (n : Int)] w (JRes w.heap.size (allJ bs []) w) := by
  obtain ⟨ao, nS, c, rfl⟩ := hv.slice3
  have HV := hid hv
  have HG := hid hgl
  clear hv hgl
  go_enter Tryd.func22, Tryd.ntmps22
  go_upto_region 2 with (first
    | (go_at_call 25; refine (copied_any _ bs g _ HV.out (by omega)).mono ?_; rintro e w1 ⟨v1, g1, rfl, hv1, hg1, hl1, hb1⟩; obtain ⟨ao1, n1, c1, rfl⟩ := hv1.slice3; have HV1 := hid hv1; have HB1 := hid hb1; have hz1 := hb1.size; clear hv1 hb1)
    | (go_at_call 24; refine (newDecoder_any _ bs g1 _ HV1.out hl1 (HG.out.below HB1.out) (by omega)).mono ?_; rintro e w2 ⟨rfl, hd2, hb2⟩; have HD2 := hid hd2; have HB2 := hid hb2; clear hd2 hb2)
    | fail)
  have HLOW : Hid (∀ e w', JRes w1.heap.size (allJ bs []) w2 e w' → JRes w.heap.size (allJ bs []) w e w') := hid fun e w' h => h.low (below_comp HB1.out HB2.out) hz1
  have HI : Hid (CInv w1.heap.size w1.heap.size g1 bs n (.slice ao1 n1 c1) w2 (allJ bs []) (.slice none 0 0) w2) := hid ⟨DS.new, [], _, _, _, _, bs.length + 1, HD2.out, OwnJ.nil _ _, (fun e => by cases e), (fun e => by cases e), (fun k hk => by cases hk), DS.good_new bs, rfl, rfl, Nat.le_refl _, clone_nothing bs n _ _ _, by simp [DS.new], Below.refl _ _⟩
  have hbB : w1.heap.size ≤ w2.heap.size := HB2.out.size
  clear HV1 HD2 HB1 HB2
  generalize allJ bs [] = R at *
  generalize w1.heap.size = B at *
  go_wp2_with fail
  go_loopw [7] (fun out wr => CInv B B g1 bs n (.slice ao1 n1 c1) w2 R out wr) (fun out _ => bs.length + 1 - sliceLen out)
  case atStart => exact HI.out
  case round =>
    obtain ⟨s, l, vr, ve, vst, vi, f, hd, ho, hn1, hn2, hn3, hgd, hpk, hbad, hll, hrun, hf, hbw⟩ := hrel
    obtain ⟨aoV, cV, rfl⟩ := ho.slice
    have hlb : l.length ≤ 10000000 := by have := hgd.k; omega
    have hst : s.st.length ≤ 100000000 := by have := hgd.k; have := hgd.st; omega
    have HD := hid hd
    have HO := hid ho
    have HGD := hid hgd
    have HNB := hid hn1
    have HNG := hid hn2
    have HNK := hid hn3
    have HPB := hid hpk
    have HBD := hid hbad
    have HRUN := hid hrun
    have HBW := hid hbw
    clear hd ho hgd hn1 hn2 hn3 hpk hbad hrun hbw
    by_cases hlt : l.length < n
    · have HRD := hid (readAny _ wr HD.out hm (fun _ => ⟨HGD.out.ok, hst⟩))
      have HRB := hid (fun s' h => clone_bad (bs := bs) (n := n) (f := f) (s := s) (s' := s') (l := l) hlt hf HGD.out.k h)
      have HRE := hid (fun s' h => clone_end (bs := bs) (n := n) (f := f) (s := s) (s' := s') (l := l) hlt hf HGD.out.k h)
      have HRS := hid (fun s' h => clone_step (bs := bs) (n := n) (f := f) (s := s) (s' := s') (l := l) hlt hf HGD.out.k h)
      unfold ReadRes at HRD
      rcases hr : readJ bs s with ⟨s', _ | _⟩
      · rw [hr] at HRD
        have HR1 : Hid (R = (l, false)) := hid (HRUN.out.symm.trans (HRB.out s' hr))
        clear hr
        go_wp2_with (first | (go_at_call 31; refine (Calls.mono HRD.out ?_); rintro e w6 ⟨v6, vr6, ve6, vst6, vi6, hd6, hs6, hif6, rfl⟩; obtain ⟨u6, te6, x6, rfl, _, k6, po6, ao6, n6, c6, b6, t6, rfl⟩ : ∃ u te x, v6 = .tuple #[u, .iface te x] ∧ (False → u = .agg #[.int .u16 0, .int .i64 0, .slice none 0 0, .bool false, .string { data := #[] }]) ∧ (∃ (k po : Int) (ao : Option Addr) (n c : Nat) (b : Bool) (t : ByteArray), u = .agg #[.int .u16 k, .int .i64 po, .slice ao n c, .bool b, .string t]) := hif6) | fail)
        go_ret2
        have hb6 := HBW.out.trans (hs6.below HD.out.bp HD.out.base HD.out.ownLe)
        refine HLOW.out _ _ ⟨.slice aoV l.length cV, ?_, ?_, hb6.alloc (by have := hb6.size; omega) _⟩
        · rw [HR1.out]; rfl
        · rw [HR1.out]
          exact (HO.out.step hs6 HNB.out HNK.out).below ((Below.refl _ _).alloc (Nat.le_refl _) _)
      · rw [hr] at HRD
        have hJ := hr
        have hF := readF_ok (by rw [← readJ_plain HPB.out]; exact hJ) HGD.out.k
        have HGD' := hid (peek_good HPB.out hJ HGD.out hm)
        by_cases hk1 : s'.tok.kind = 1
        · have HR1 : Hid (R = (l, true)) := hid (HRUN.out.symm.trans (HRE.out s' hr hk1))
          have e1 : ((s'.tok.kind : Int) == 1) = true := by simp; omega
          clear hr hk1 hF hJ
          go_wp2_with (first | (go_at_call 31; refine (Calls.mono HRD.out ?_); rintro e w6 ⟨v6, vr6, ve6, vst6, vi6, hd6, hs6, hif6, rfl⟩; obtain rfl : v6 = .tuple #[tokV vr6 s'.tok, .nilIface] := hif6; obtain ⟨ao6, n6, c6, rfl⟩ := hd6.raw.slice3; unfold tokV) | (go_at_call 32; refine (kind_any _ _ _ _ _ _ rfl).mono ?_; rintro e w7 ⟨rfl, hb7⟩) | fail)
          go_ret2
          have hb6 := HBW.out.trans (hs6.below HD.out.bp HD.out.base HD.out.ownLe)
          have hb8 := below_comp ((Below.refl w6.heap.size w6).alloc (Nat.le_refl _) _) hb7
          refine HLOW.out _ _ ⟨.slice aoV l.length cV, ?_, ?_, hb6.trans (hb8.mono (by have := hb6.size; omega))⟩
          · rw [HR1.out]; rfl
          · rw [HR1.out]
            exact (HO.out.step hs6 HNB.out HNK.out).below hb8
        · have e1 : ((s'.tok.kind : Int) == 1) = false := by simp; omega
          have HS := hid (HRS.out s' hr hk1)
          have HK1 := hid hk1
          have HF := hid hF
          clear hr hk1 hF hJ
          go_wp2_with (first | (go_at_call 31; refine (Calls.mono HRD.out ?_); rintro e w6 ⟨v6, vr6, ve6, vst6, vi6, hd6, hs6, hif6, rfl⟩; obtain rfl : v6 = .tuple #[tokV vr6 s'.tok, .nilIface] := hif6; obtain ⟨ao6, n6, c6, rfl⟩ := hd6.raw.slice3; have HD6 := hid hd6; have HO6 := hid (HO.out.step hs6 HNB.out HNK.out); have HK6 := hid (step_far hs6 HNK.out (fun k hk => (HO.out.lt k hk).2)); have HB6 := hid (HBW.out.trans (hs6.below HD.out.bp HD.out.base HD.out.ownLe)); clear hd6 hs6; unfold tokV) | (go_at_call 32; refine (kind_any _ _ _ _ _ _ rfl).mono ?_; rintro e w7 ⟨rfl, hb7⟩; obtain ⟨hc7, hf7⟩ := bcell hb7; have hz7 : w6.heap.size < w7.heap.size := (by have := hb7.size; simp at this; omega); have HB7 := hid (below_comp ((Below.refl w6.heap.size w6).alloc (Nat.le_refl _) _) hb7); clear hb7) | (go_at_call 33; refine (jsonToken_any _ s'.tok _ (HD6.out.raw.below HB7.out) HGD'.out.fit).mono ?_; rintro e w8 ⟨rfl, hb8⟩; have HB8 := hid (below_comp HB7.out hb8); clear hb8; unfold jtCells) | (refine wpList_append_jt _ (by rfl) _ _ _ (by rfl) B Tryd.underlying25 jtInfo (.slice aoV l.length cV) l (by rfl) ((HO6.out.below HB8.out).below ((Below.refl _ _).alloc (Nat.le_refl _) _)) ⟨w8.heap.size, 0, none⟩ 1 s'.tok (by rfl) (World.news_of_block (cs := (jtCells s'.tok).toArray) (t := 30) (fr := (0, 0)) (heap_alloc_new w8 _)) (by have := HB8.out.size; have := HD6.out.base; simp; omega) (by omega) ?_; intro v9 w9 ha9) | fail)
          go_roundw
          case rel =>
            obtain ⟨f', rfl, hrun'⟩ := HS.out
            have hg8 : Below w6.heap.size w6 (w8.alloc (.cells #[.int .i64 (s'.tok.kind : Int), .int .i64 (s'.tok.pos : Int), .bool s'.tok.tru, .string ⟨s'.tok.raw.toArray⟩, .string ⟨s'.tok.str.toArray⟩] 30)) := HB8.out.alloc HB8.out.size _
            have hd8 := HD6.out.below hg8
            have ho8 := HO6.out.below hg8
            generalize w8.alloc (.cells #[.int .i64 (s'.tok.kind : Int), .int .i64 (s'.tok.pos : Int), .bool s'.tok.tru, .string ⟨s'.tok.raw.toArray⟩, .string ⟨s'.tok.str.toArray⟩] 30) = wz at *
            have hgr := ha9.grown
            have hk9 : ∀ k, v9.ownBlock = some k → (Value.slice aoV l.length cV).ownBlock = some k ∨ wz.heap.size = k := fun k hk => by
              rcases ha9.lies with e | e
              · exact .inl (by rw [← e]; exact hk)
              · rw [e] at hk; injection hk with hk; exact .inr hk
            have hvb : Below B wz w9 := ⟨hgr.os, hgr.tape, hgr.output, hgr.size, fun k hk => hgr.block k (by have := hd8.base; omega) (fun e => by have := (ho8.lt k e.symm).1; omega)⟩
            refine ⟨s', l ++ [s'.tok], .slice ao6 n6 c6, ve6, vst6, vi6, f', ?_, ha9.own, ?_, ?_, ?_, HGD'.out, HF.out.1, HF.out.2.1.trans HBD.out, ?_, ?_, ?_, ?_⟩
            · exact hd8.kept hgr.size (hgr.block B hd8.lt (fun e => HNB.out e.symm)) (hgr.block g1 hd8.gl (fun e => HNG.out e.symm)) (World.ownsRow.kept hd8.own hgr (by
                cases hk : vst6.ownBlock with
                | none => exact .inl rfl
                | some k => exact .inr (fun e => HK6.out k e.symm hk))) (fun k hk h5 => hgr.block k hk (fun e => by have := (ho8.lt k e.symm).1; have := hd8.b5; omega))
            · intro e
              rcases hk9 B e with e | e
              · exact HNB.out e
              · have := hd8.lt; omega
            · intro e
              rcases hk9 g1 e with e | e
              · exact HNG.out e
              · have := hd8.gl; omega
            · intro k hk e
              rcases hk9 k hk with h | h
              · exact HK6.out k h e
              · have := hd8.ownLt k e; omega
            · have := HF.out.2.2.2.1 HK1.out
              simp only [List.length_append, List.length_cons, List.length_nil]
              omega
            · exact hrun'.symm.trans HRUN.out
            · have := HF.out.2.2.2.1 HK1.out
              omega
            · exact (HB6.out.trans (hg8.mono (by have := HD6.out.base; omega))).trans hvb
          case measure =>
            obtain ⟨ao9, c9, rfl⟩ := ha9.own.slice
            have := HGD.out.k
            simp only [sliceLen, List.length_append, List.length_cons, List.length_nil]
            omega
    · have HR1 := hid (clone_rest (bs := bs) (n := n) (f := f) (s := s) (l := l) hlt hf HGD.out.k)
      have HJ1 : Hid (∀ w6 vst6, DW wr.heap.size wr.heap.size g1 bs vr ve vst6 (.slice ao1 n1 c1) vi s w6 → Calls Tryd.prog 23 #[.pointer (some ⟨wr.heap.size, 0, none⟩), .slice none 0 0, .slice none 0 0] w6 fun e w' => (∃ v7 x7, e = .returned (.tuple #[v7, .bool x7])) ∧ Below wr.heap.size w6 w') :=
        hid fun w6 vst6 h => (jsonRead_any [] s [] (.slice none 0 0) _ w6 (bs.length + 1) h hm HGD.out HPB.out HBD.out (OwnJ.nil _ _) (fun e => by cases e) (fun e => by cases e) (fun k hk => by cases hk) (BView.nil _ _) (Nat.zero_le _) (Nat.le_add_right _ _)).mono fun e w' ⟨v7, h1, _, h3⟩ => ⟨⟨v7, _, h1⟩, h3⟩
      have HJ2 : Hid (∀ w7, Below wr.heap.size wr w7 → Calls Tryd.prog 23 #[.pointer (some ⟨B, 0, none⟩), .slice none 0 0, .slice aoV l.length cV] w7 fun e w' => ∃ v8, e = .returned (.tuple #[v8, .bool R.2]) ∧ OwnJ w' B v8 R.1 ∧ Below B w7 w') :=
        hid fun w7 hb => (jsonRead_any [] s l (.slice aoV l.length cV) _ w7 f (HD.out.below hb) hm HGD.out HPB.out HBD.out (HO.out.below hb) HNB.out HNG.out HNK.out (BView.nil _ _) hlb hf).mono fun e w' ⟨v8, h1, h2, h3⟩ => by
          rw [← HR1.out, HRUN.out] at h1 h2
          exact ⟨v8, h1, h2, h3⟩
      clear HR1
      go_wp2_with (first
        | (go_at_call 34; refine (decClone_any s wr HD.out hst HPB.out HBD.out).mono ?_; rintro e w6 ⟨vst6, rfl, hd6, hb6⟩; have HD6 := hid hd6; have HB6 := hid hb6; clear hd6 hb6)
        | (go_at_call 23; with_reducible refine Calls.mono (HJ1.out _ _ HD6.out) ?_; rintro e w7 ⟨⟨v7, x7, rfl⟩, hb7⟩; have HB7 := hid (HB6.out.trans hb7); clear hb7)
        | (go_at_call 23; with_reducible refine Calls.mono (HJ2.out _ HB7.out) ?_; rintro e w8 ⟨v8, rfl, ho8, hb8⟩)
        | fail)
      go_ret2
      exact HLOW.out _ _ ⟨v8, rfl, ho8, (HBW.out.trans (HB7.out.mono HD.out.base)).trans hb8⟩
end Go.Proofs.YtjkmmhnhhiopiaaDoor
