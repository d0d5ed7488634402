/-
  The thin package's reading of JSON, walked: all tokens up to the end, or to an error.
-/
import Derived.Test.YtjkmmhnhhiopiaaDoorDTK
import Derived.Test.YtjkmmhnhhiopiaaDoorDReadAny
namespace Go.Proofs.YtjkmmhnhhiopiaaDoor
open Go.ChangeShapes Go.WideShapes Go.ChangeAt Go.RowKit

variable {B p g : Nat} {bs : List UInt8} {vr ve vst vo vi : Value}
/-- what holds ahead of each Read: R is what will have been read in the end -/
def JInv (B p g : Nat) (bs : List UInt8) (ps : List Bool) (vo : Value) (n0 : Nat) (w0 : World) (R : List TK × Bool) (v : Value) (wr : World) : Prop :=
  ∃ (s : DS) (l : List TK) (vr ve vst vi : Value) (f : Nat), DW B p g bs vr ve vst vo vi s wr ∧ OwnJ wr B v l ∧ v.ownBlock ≠ some p ∧ v.ownBlock ≠ some g ∧ (∀ k, v.ownBlock = some k → vst.ownBlock ≠ some k) ∧
    s.good bs ∧ s.peeked = false ∧ s.bad = false ∧ l.length ≤ n0 + s.k ∧ runJ bs ps f s l = R ∧ bs.length + 1 ≤ f + s.k ∧ Below B w0 wr
def JRes (B : Nat) (R : List TK × Bool) (w0 : World) (e : Ending) (w' : World) : Prop := ∃ v, e = .returned (.tuple #[v, .bool R.2]) ∧ OwnJ w' B v R.1 ∧ Below B w0 w'
/-- a block of the calls' own is another than that of a list, when a call on the reader made it anew -/
theorem step_far {p : Nat} {v v1 v2 : Value} {w w' : World} (h : DStep p v1 w v2 w') (hv : ∀ k, v.ownBlock = some k → v1.ownBlock ≠ some k) (hl : ∀ k, v.ownBlock = some k → k < w.heap.size) : ∀ k, v.ownBlock = some k → v2.ownBlock ≠ some k := fun k hk e => by
  rcases h.lies k e with h1 | h1
  · exact hv k hk h1
  · have := hl k hk; omega
theorem ReadRes.weak {B p g : Nat} {bs : List UInt8} {vst vo : Value} {w w' : World} {r : DS × Bool} {e : Ending} (h : ReadRes B p g bs vst vo True w r e w') : ReadRes B p g bs vst vo False w r e w' := by
  obtain ⟨v, vr', ve', vst', vi', h1, h2, h3, h4⟩ := h
  refine ⟨v, vr', ve', vst', vi', h1, h2, ?_, h4⟩
  cases hr : r.2 with
  | true => rw [hr] at h3; exact h3
  | false =>
    rw [hr] at h3
    obtain ⟨u, te, x, g1, g2, g3⟩ := h3
    exact ⟨u, te, x, g1, fun h => h.elim, g3⟩
/-- Read, whatever was called before it -/
theorem readAny (s : DS) (w : World) (h : DW B p g bs vr ve vst vo vi s w) (hm : bs.length ≤ 10000000) (hok : s.peeked = false → s.ok ∧ s.st.length ≤ 100000000) :
    Calls Tryd.prog 31 #[.pointer (some ⟨p, 0, none⟩)] w (ReadRes B p g bs vst vo False w (readJ bs s)) := by
  cases hp : s.peeked with
  | true => exact read_peeked s w h hp
  | false => exact (read_plain s w h hm (hok hp).2 (hok hp).1 hp).mono fun e w' hr => hr.weak
/-- ahead of Read: looked ahead, or not -/
def PInv (B p g : Nat) (bs : List UInt8) (vo vst : Value) (s2 : DS) (wr wx : World) : Prop := ∃ vr ve vst2 vi, DW B p g bs vr ve vst2 vo vi s2 wx ∧ DStep p vst wr vst2 wx
theorem peekJ_peeked (bs : List UInt8) (s : DS) : (peekJ bs s).peeked = true := by
  unfold peekJ
  cases hp : s.peeked with
  | true => simp [hp]
  | false =>
    simp only [Bool.false_eq_true, if_false]
    rcases readJ bs s with ⟨s', b⟩
    cases b <;> rfl
def sliceLen : Value → Nat
  | .slice _ n _ => n
  | _ => 0
set_option maxRecDepth 100000 in
set_option maxHeartbeats 4000000 in
theorem jsonRead_any (ps : List Bool) (s : DS) (l : List TK) (v vpk : Value) (w : World) (f : Nat) (h : DW B p g bs vr ve vst vo vi s w) (hm : bs.length ≤ 10000000) (hgood : s.good bs) (hpk : s.peeked = false) (hbad : s.bad = false)
    (ho : OwnJ w B v l) (n1 : v.ownBlock ≠ some p) (n2 : v.ownBlock ≠ some g) (n3 : ∀ k, v.ownBlock = some k → vst.ownBlock ≠ some k) (hps : BView w B vpk ps) (hl : l.length ≤ 10000000) (hf : bs.length + 1 ≤ f + s.k) :
    Calls Tryd.prog 23 #[.pointer (some ⟨p, 0, none⟩), vpk, v] w (JRes B (runJ bs ps f s l) w) := by
  have hbp := h.bp
  have hbase := h.base
  have HI : Hid (JInv B p g bs ps vo l.length w (runJ bs ps f s l) v w) := hid ⟨s, l, vr, ve, vst, vi, f, h, ho, n1, n2, n3, hgood, hpk, hbad, by omega, rfl, hf, Below.refl _ _⟩
  have HPS := hid hps
  obtain ⟨aoP, cP, rfl⟩ : ∃ ao c, vpk = .slice ao ps.length c := by obtain ⟨ao, c, e, _⟩ := hps; exact ⟨ao, c, e⟩
  generalize runJ bs ps f s l = R at *
  generalize l.length = n0 at *
  clear h ho n1 n2 n3 hgood hpk hbad hf hps
  go_enter Tryd.func23, Tryd.ntmps23
  go_wp2_with fail
  go_loopw [2] (fun out wr => JInv B p g bs ps vo n0 w R out wr) (fun out _ => n0 + bs.length + 1 - sliceLen out)
  case atStart => exact HI.out
  case round =>
    obtain ⟨s, l, vr, ve, vst, vi, f, hd, ho, n1, n2, n3, hgd, hpk, hbad, hll, hrun, hf, hbw⟩ := hrel
    obtain ⟨aoV, cV, rfl⟩ := ho.slice
    have hlb : l.length ≤ 20000000 := by have := hgd.k; omega
    have hst : s.st.length ≤ 100000000 := by have := hgd.k; have := hgd.st; omega
    have HPSr := hid (HPS.out.below hbw)
    have HPK : Hid (∀ w', DW B p g bs vr ve vst vo vi s w' → Calls Tryd.prog 35 #[.pointer (some ⟨p, 0, none⟩)] w' (PeekRes B p g bs vst vo w' (peekJ bs s))) := hid fun w' h => peek_any s w' h hm hst hgd.ok hpk
    have HD := hid hd
    have HO := hid ho
    have HGD := hid hgd
    have HNB := hid n1
    have HNG := hid n2
    have HNK := hid n3
    have HPB := hid hpk
    have HBD := hid hbad
    have HRUN := hid hrun
    have HBW := hid hbw
    clear hd ho hgd n1 n2 n3 hpk hbad hrun hbw
    go_upto_region 2 with fail
    go_cut [22] from 9 to 22 (fun t22 wx => t22 = .bool (ps.getD l.length false) ∧ wx = wr)
    case first =>
      by_cases hlt : l.length < ps.length
      · obtain ⟨pb, hb⟩ : ∃ pb, ps[l.length] = pb := ⟨_, rfl⟩
        have HG : Hid (ps.getD l.length false = pb) := hid (by rw [List.getD_eq_getElem?_getD, List.getElem?_eq_getElem hlt]; exact hb)
        have HB := hid hb
        clear hb
        go_wp2_with (first | (refine wpList_index_bools _ (by rfl) _ _ 46 4 (by rfl) Tryd.underlying46 (by kernel_rfl) _ _ _ (by rfl) HPSr.out _ l.length (by rfl) hlt ?_; intro ad1 hc1; rw [HB.out] at hc1) | fail)
        go_meet
        exact ⟨by rw [HG.out], rfl⟩
      · have HG : Hid (ps.getD l.length false = false) := hid (by rw [List.getD_eq_getElem?_getD, List.getElem?_eq_none (by omega)]; rfl)
        go_wp2_with fail
        go_meet
        exact ⟨by rw [HG.out], rfl⟩
    case rest =>
      obtain ⟨rfl, rfl⟩ := hcut
      go_upto_if 22 with fail
      go_cut [22] from 22 to 24 (fun _ wx => PInv B p g bs vo vst (if ps.getD l.length false then peekJ bs s else s) wc wx)
      case first =>
        rcases hG : ps.getD l.length false with _ | _
        · have HG := hid hG
          clear hG
          go_wp2_with fail
          go_meet
          rw [if_neg (by rw [HG.out]; simp)]
          exact ⟨_, _, _, _, HD.out, DStep.refl _ _ _⟩
        · have HG := hid hG
          clear hG
          go_wp2_with (first | (go_at_call 35; refine (Calls.mono (HPK.out _ HD.out) ?_); rintro e w6 ⟨v6, vr6, ve6, vst6, vi6, rfl, hd6, hs6⟩) | fail)
          go_meet
          rw [if_pos HG.out]
          exact ⟨_, _, _, _, hd6, hs6⟩
      case rest =>
        obtain ⟨vr2, ve2, vst2, vi2, hd2, hs2⟩ := hcut
        have HO2 := hid (HO.out.step hs2 HNB.out HNK.out)
        have HK2 := hid (step_far hs2 HNK.out (fun k hk => (HO.out.lt k hk).2))
        have HBW2 := hid (HBW.out.trans (hs2.below HD.out.bp HD.out.base HD.out.ownLe))
        have HS2 : Hid ((ps.getD l.length false = false ∨ True) ∧ ((if ps.getD l.length false then peekJ bs s else s).peeked = false → (if ps.getD l.length false then peekJ bs s else s) = s)) := hid ⟨.inr trivial, fun h => by
          cases hg : ps.getD l.length false with
          | false => rfl
          | true => rw [hg] at h; simp only [if_true] at h; rw [peekJ_peeked] at h; cases h⟩
        have HRD := hid (readAny _ wc hd2 hm (fun h => by rw [HS2.out.2 h]; exact ⟨HGD.out.ok, hst⟩))
        have HEQ : Hid (∀ s', readJ bs (if ps.getD l.length false then peekJ bs s else s) = (s', true) → readJ bs s = (s', true)) := hid fun s' h => by
          cases hg : ps.getD l.length false with
          | false => rw [hg] at h; simpa using h
          | true =>
            rw [hg] at h
            simp only [if_true] at h
            have h1 := read_peek (bs := bs) HPB.out HBD.out HGD.out.k
            rw [h] at h1
            exact (h1.2 h1.1.symm).symm
        have HRB := hid (fun s' h => run_bad (bs := bs) (ps := ps) (f := f) (s := s) (s' := s') (l := l) hf HGD.out.k h)
        have HRE := hid (fun s' h => run_end (bs := bs) (ps := ps) (f := f) (s := s) (s' := s') (l := l) hf HGD.out.k h)
        have HRS := hid (fun s' h => run_step (bs := bs) (ps := ps) (f := f) (s := s) (s' := s') (l := l) hf HGD.out.k h)
        have HD2 := hid hd2
        clear hd2 hs2 HS2
        generalize (if ps.getD l.length false then peekJ bs s else s) = s2 at *
        unfold ReadRes at HRD
        rcases hr : readJ bs s2 with ⟨s', _ | _⟩
        · rw [hr] at HRD
          have HR1 : Hid (R = (l, false)) := hid (HRUN.out.symm.trans (HRB.out s' hr))
          clear hr
          go_wp2_with (first | (go_at_call 31; refine (Calls.mono HRD.out ?_); rintro e w6 ⟨v6, vr6, ve6, vst6, vi6, hd6, hs6, hif6, rfl⟩; obtain ⟨u6, te6, x6, rfl, _, k6, po6, ao6, n6, c6, b6, t6, rfl⟩ : ∃ u te x, v6 = .tuple #[u, .iface te x] ∧ (False → u = .agg #[.int .u16 0, .int .i64 0, .slice none 0 0, .bool false, .string { data := #[] }]) ∧ (∃ (k po : Int) (ao : Option Addr) (n c : Nat) (b : Bool) (t : ByteArray), u = .agg #[.int .u16 k, .int .i64 po, .slice ao n c, .bool b, .string t]) := hif6) | fail)
          go_ret2
          have hb6 := HBW2.out.trans (hs6.below HD2.out.bp HD2.out.base HD2.out.ownLe)
          refine ⟨.slice aoV l.length cV, ?_, ?_, hb6.alloc (by have := hb6.size; omega) _⟩
          · rw [HR1.out]; rfl
          · rw [HR1.out]
            exact (HO2.out.step hs6 HNB.out HK2.out).below ((Below.refl _ _).alloc (Nat.le_refl _) _)
        · rw [hr] at HRD
          have hJ := HEQ.out s' hr
          have hF := readF_ok (by rw [← readJ_plain HPB.out]; exact hJ) HGD.out.k
          have HGD' := hid (peek_good HPB.out hJ HGD.out hm)
          by_cases hk1 : s'.tok.kind = 1
          · have HR1 : Hid (R = (l, true)) := hid (HRUN.out.symm.trans (HRE.out s' hr hk1))
            have e1 : ((s'.tok.kind : Int) == 1) = true := by simp; omega
            clear hr hk1 hF hJ
            go_wp2_with (first | (go_at_call 31; refine (Calls.mono HRD.out ?_); rintro e w6 ⟨v6, vr6, ve6, vst6, vi6, hd6, hs6, hif6, rfl⟩; obtain rfl : v6 = .tuple #[tokV vr6 s'.tok, .nilIface] := hif6; obtain ⟨ao6, n6, c6, rfl⟩ := hd6.raw.slice3; unfold tokV) | (go_at_call 32; refine (kind_any _ _ _ _ _ _ rfl).mono ?_; rintro e w7 ⟨rfl, hb7⟩) | fail)
            go_ret2
            have hb6 := HBW2.out.trans (hs6.below HD2.out.bp HD2.out.base HD2.out.ownLe)
            have hb8 := below_comp ((Below.refl w6.heap.size w6).alloc (Nat.le_refl _) _) hb7
            refine ⟨.slice aoV l.length cV, ?_, ?_, hb6.trans (hb8.mono (by have := hb6.size; omega))⟩
            · rw [HR1.out]; rfl
            · rw [HR1.out]
              exact (HO2.out.step hs6 HNB.out HK2.out).below hb8
          · have e1 : ((s'.tok.kind : Int) == 1) = false := by simp; omega
            have HS := hid (HRS.out s' hr hk1)
            have HK1 := hid hk1
            have HF := hid hF
            clear hr hk1 hF hJ
            go_wp2_with (first | (go_at_call 31; refine (Calls.mono HRD.out ?_); rintro e w6 ⟨v6, vr6, ve6, vst6, vi6, hd6, hs6, hif6, rfl⟩; obtain rfl : v6 = .tuple #[tokV vr6 s'.tok, .nilIface] := hif6; obtain ⟨ao6, n6, c6, rfl⟩ := hd6.raw.slice3; have HD6 := hid hd6; have HO6 := hid (HO2.out.step hs6 HNB.out HK2.out); have HK6 := hid (step_far hs6 HK2.out (fun k hk => (HO2.out.lt k hk).2)); have HB6 := hid (HBW2.out.trans (hs6.below HD2.out.bp HD2.out.base HD2.out.ownLe)); clear hd6 hs6; unfold tokV) | (go_at_call 32; refine (kind_any _ _ _ _ _ _ rfl).mono ?_; rintro e w7 ⟨rfl, hb7⟩; obtain ⟨hc7, hf7⟩ := bcell hb7; have hz7 : w6.heap.size < w7.heap.size := (by have := hb7.size; simp at this; omega); have HB7 := hid (below_comp ((Below.refl w6.heap.size w6).alloc (Nat.le_refl _) _) hb7); clear hb7) | (go_at_call 33; refine (jsonToken_any _ s'.tok _ (HD6.out.raw.below HB7.out) HGD'.out.fit).mono ?_; rintro e w8 ⟨rfl, hb8⟩; have HB8 := hid (below_comp HB7.out hb8); clear hb8; unfold jtCells) | (refine wpList_append_jt _ (by rfl) _ _ _ (by rfl) B Tryd.underlying25 jtInfo (.slice aoV l.length cV) l (by rfl) ((HO6.out.below HB8.out).below ((Below.refl _ _).alloc (Nat.le_refl _) _)) ⟨w8.heap.size, 0, none⟩ 1 s'.tok (by rfl) (World.news_of_block (cs := (jtCells s'.tok).toArray) (t := 30) (fr := (0, 0)) (heap_alloc_new w8 _)) (by have := HB8.out.size; have := HD6.out.base; simp; omega) (by omega) ?_; intro v9 w9 ha9) | fail)
            go_roundw
            case rel =>
              obtain ⟨f', rfl, hrun'⟩ := HS.out
              have hg8 : Below w6.heap.size w6 (w8.alloc (.cells #[.int .i64 (s'.tok.kind : Int), .int .i64 (s'.tok.pos : Int), .bool s'.tok.tru, .string ⟨s'.tok.raw.toArray⟩, .string ⟨s'.tok.str.toArray⟩] 30)) := HB8.out.alloc HB8.out.size _
              have hd8 := HD6.out.below hg8
              have ho8 := HO6.out.below hg8
              generalize w8.alloc (.cells #[.int .i64 (s'.tok.kind : Int), .int .i64 (s'.tok.pos : Int), .bool s'.tok.tru, .string ⟨s'.tok.raw.toArray⟩, .string ⟨s'.tok.str.toArray⟩] 30) = wz at *
              have hgr := ha9.grown
              have hk9 : ∀ k, v9.ownBlock = some k → (Value.slice aoV l.length cV).ownBlock = some k ∨ wz.heap.size = k := fun k hk => by
                rcases ha9.lies with e | e
                · exact .inl (by rw [← e]; exact hk)
                · rw [e] at hk; injection hk with hk; exact .inr hk
              have hvb : Below B wz w9 := ⟨hgr.os, hgr.tape, hgr.output, hgr.size, fun k hk => hgr.block k (by have := hd8.base; omega) (fun e => by have := (ho8.lt k e.symm).1; omega)⟩
              refine ⟨s', l ++ [s'.tok], .slice ao6 n6 c6, ve6, vst6, vi6, f', ?_, ha9.own, ?_, ?_, ?_, HGD'.out, HF.out.1, HF.out.2.1.trans HBD.out, ?_, ?_, ?_, ?_⟩
              · exact hd8.kept hgr.size (hgr.block p hd8.lt (fun e => HNB.out e.symm)) (hgr.block g hd8.gl (fun e => HNG.out e.symm)) (World.ownsRow.kept hd8.own hgr (by
                  cases hk : vst6.ownBlock with
                  | none => exact .inl rfl
                  | some k => exact .inr (fun e => HK6.out k e.symm hk))) (fun k hk h5 => hgr.block k hk (fun e => by have := (ho8.lt k e.symm).1; have := hd8.b5; omega))
              · intro e
                rcases hk9 p e with e | e
                · exact HNB.out e
                · have := hd8.lt; omega
              · intro e
                rcases hk9 g e with e | e
                · exact HNG.out e
                · have := hd8.gl; omega
              · intro k hk e
                rcases hk9 k hk with h | h
                · exact HK6.out k h e
                · have := hd8.ownLt k e; omega
              · have := HF.out.2.2.2.1 HK1.out
                simp only [List.length_append, List.length_cons, List.length_nil]
                omega
              · exact hrun'.symm.trans HRUN.out
              · have := HF.out.2.2.2.1 HK1.out
                omega
              · exact (HB6.out.trans (hg8.mono (by have := HD6.out.base; omega))).trans hvb
            case measure =>
              obtain ⟨ao9, c9, rfl⟩ := ha9.own.slice
              have := HGD.out.k
              simp only [sliceLen, List.length_append, List.length_cons, List.length_nil]
              omega
end Go.Proofs.YtjkmmhnhhiopiaaDoor
