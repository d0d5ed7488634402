/-
  The reference's writer of JSON, walked: a number.
-/
import Derived.Test.YtjkmmhnhhiopiaaJQuoted
import Derived.Test.YtjkmmhnhhiopiaaAnyOrder
import Derived.Deep.CutBlock
import Derived.Deep.DeepCutAuto
namespace Go.Proofs.Ytjkmmhnhhiopiaa
open Go.ChangeShapes Go.WideShapes Go.ChangeAt Go.RowKit

theorem extract_mk (l : List UInt8) (k : Nat) (_h : k ≤ l.length) : (⟨l.toArray⟩ : ByteArray).extract k (⟨l.toArray⟩ : ByteArray).size = ⟨(l.drop k).toArray⟩ := by
  apply ByteArray.ext
  rw [size_mk, ByteArray.data_extract]
  simp
  rw [List.take_of_length_le (by simp)]

set_option maxRecDepth 100000 in
theorem extract_one (c : UInt8) (l : List UInt8) : (⟨(c :: l).toArray⟩ : ByteArray).extract 1 (l.length + 1) = ⟨l.toArray⟩ := by
  have h := extract_mk (c :: l) 1 (by simp)
  rw [size_mk] at h
  exact h
theorem i32_byte (c : UInt8) : IntKind.i32.wrap (c.toNat : Int) = c.toNat := by
  have := byte_bd c
  simp [IntKind.wrap, IntKind.signed, IntKind.bits]
  omega
theorem head_byte (c : UInt8) (l : List UInt8) (h : 0 < (⟨(c :: l).toArray⟩ : ByteArray).size) : ((⟨(c :: l).toArray⟩ : ByteArray)[0]'h).toNat = c.toNat := rfl
def digs : ByteArray := ⟨#[48, 49, 50, 51, 52, 53, 54, 55, 56, 57]⟩
theorem digs_at : ∀ d, d < 10 → digs.extract d (d + 1) = ⟨#[48 + UInt8.ofNat d]⟩ := by decide +kernel
theorem bytes_append (a b : List UInt8) : (⟨a.toArray⟩ : ByteArray) ++ ⟨b.toArray⟩ = ⟨(a ++ b).toArray⟩ := by
  have : (⟨a.toArray⟩ : ByteArray) ++ ⟨b.toArray⟩ = ⟨a.toArray ++ b.toArray⟩ := by
    apply ByteArray.ext
    simp
  rw [this]; congr 1; simp
theorem ofNat48 (d : Nat) : UInt8.ofNat (48 + d) = 48 + UInt8.ofNat d := by rw [UInt8.ofNat_add]; rfl
def signC : Array Value := #[.string ⟨#[]⟩, .string ⟨#[45]⟩]
theorem signC_at (v : Nat) (h : v < 2) : signC[v]? = some (.string ⟨(signT v).toArray⟩) := by
  match v, h with
  | 0, _ => rfl
  | 1, _ => rfl
def fracC : Array Value := #[.string ⟨#[46, 48]⟩, .string ⟨#[46, 53]⟩, .string ⟨#[46, 50, 53, 48]⟩, .string ⟨#[46, 48, 48, 48, 48, 48, 49]⟩]
theorem fracC_at (v : Nat) (h : v < 4) : fracC[v]? = some (.string ⟨(fracT v).toArray⟩) := by
  match v, h with
  | 0, _ => rfl
  | 1, _ => rfl
  | 2, _ => rfl
  | 3, _ => rfl
theorem fracJ_yes {ps : List UInt8} {k : Nat} (h : pickV ps k 3 = 1) : fracJ ps k = (fracT (pickV ps (pickK ps k) 4), pickK ps (pickK ps k)) := by unfold fracJ; rw [if_pos h]
theorem fracJ_no {ps : List UInt8} {k : Nat} (h : pickV ps k 3 ≠ 1) : fracJ ps k = ([], pickK ps k) := by unfold fracJ; rw [if_neg h]
theorem expJ_yes {ps : List UInt8} {k : Nat} (h : pickV ps k 3 = 1) : expJ ps k = (eT (pickV ps (pickK ps k) 2) ++ sgnT (pickV ps (pickK ps (pickK ps k)) 3) ++ powT (pickV ps (pickK ps (pickK ps (pickK ps k))) 4), pickK ps (pickK ps (pickK ps (pickK ps k)))) := by unfold expJ; rw [if_pos h]
theorem expJ_no {ps : List UInt8} {k : Nat} (h : pickV ps k 3 ≠ 1) : expJ ps k = ([], pickK ps k) := by unfold expJ; rw [if_neg h]
theorem digitsJ_snoc (t : List UInt8) (j : Nat) (hj : j < t.length) (h20 : j < 20) : digitsJ (t.take (j + 1)) = digitsJ (t.take j) ++ [UInt8.ofNat (48 + t[j].toNat % 10)] := by
  unfold digitsJ
  rw [List.take_take, List.take_take, show min 20 (j + 1) = j + 1 by omega, show min 20 j = j by omega, ltake_snoc t j hj, List.map_append]
  rfl
theorem digitsJ_len (t : List UInt8) (j : Nat) (hj : j ≤ t.length) (h20 : j ≤ 20) : (digitsJ (t.take j)).length = j := by
  unfold digitsJ
  simp; omega

def eC : Array Value := #[.string ⟨#[101]⟩, .string ⟨#[69]⟩]
theorem eC_at (v : Nat) (h : v < 2) : eC[v]? = some (.string ⟨(eT v).toArray⟩) := by
  match v, h with
  | 0, _ => rfl
  | 1, _ => rfl
def sgC : Array Value := #[.string ⟨#[]⟩, .string ⟨#[43]⟩, .string ⟨#[45]⟩]
theorem sgC_at (v : Nat) (h : v < 3) : sgC[v]? = some (.string ⟨(sgnT v).toArray⟩) := by
  match v, h with
  | 0, _ => rfl
  | 1, _ => rfl
  | 2, _ => rfl
def poC : Array Value := #[.string ⟨#[48]⟩, .string ⟨#[49]⟩, .string ⟨#[48, 51]⟩, .string ⟨#[49, 50]⟩]
theorem poC_at (v : Nat) (h : v < 4) : poC[v]? = some (.string ⟨(powT v).toArray⟩) := by
  match v, h with
  | 0, _ => rfl
  | 1, _ => rfl
  | 2, _ => rfl
  | 3, _ => rfl
/-- a table of the call's own lies in block b -/
def Tab (p : Nat) (w : World) (b : Nat) (C : Array Value) : Prop := b ≠ p ∧ b < w.heap.size ∧ ∀ j u, C[j]? = some u → w.cell? ⟨b, j, none⟩ = some u
theorem Tab.step {p : Nat} {w w' : World} {b : Nat} {C : Array Value} (h : Tab p w b C) (hg : w.grownBy w' (some p)) : Tab p w' b C :=
  ⟨h.1, Nat.lt_of_lt_of_le h.2.1 hg.size, fun j u hu => by rw [hg.cell_far _ h.2.1 (fun e => h.1 (by injection e))]; exact h.2.2 j u hu⟩
theorem Tab.new {p : Nat} {w : World} (C : Array Value) (t : TypeId) (hp : p < w.heap.size) : Tab p (w.alloc (.cells C t)) w.heap.size C :=
  ⟨by omega, by simp, fun j _ hu => alloc_cell w C t j hu⟩
/-- what the operations of the power's statement yield -/
def EV (p : Nat) (O : List UInt8) (a1 a2 a3 : Nat) (i : Nat) (v : Value) (w : World) : Prop := match i with
  | 0 => v = .string ⟨O.toArray⟩
  | 1 => ∃ b, v = .slice (some ⟨b, 0, none⟩) 2 2 ∧ Tab p w b eC
  | 2 => v = .pointer (some ⟨p, 0, none⟩)
  | 3 => v = .int .i64 a1
  | 4 => ∃ b, v = .pointer (some ⟨b, a1, none⟩) ∧ Tab p w b eC
  | 5 => v = .string ⟨(eT a1).toArray⟩
  | 6 => ∃ b, v = .slice (some ⟨b, 0, none⟩) 3 3 ∧ Tab p w b sgC
  | 7 => v = .pointer (some ⟨p, 0, none⟩)
  | 8 => v = .int .i64 a2
  | 9 => ∃ b, v = .pointer (some ⟨b, a2, none⟩) ∧ Tab p w b sgC
  | 10 => v = .string ⟨(sgnT a2).toArray⟩
  | 11 => v = .string ⟨(eT a1 ++ sgnT a2).toArray⟩
  | 12 => ∃ b, v = .slice (some ⟨b, 0, none⟩) 4 4 ∧ Tab p w b poC
  | 13 => v = .pointer (some ⟨p, 0, none⟩)
  | 14 => v = .int .i64 a3
  | 15 => ∃ b, v = .pointer (some ⟨b, a3, none⟩) ∧ Tab p w b poC
  | 16 => v = .string ⟨(powT a3).toArray⟩
  | 17 => v = .string ⟨(eT a1 ++ sgnT a2 ++ powT a3).toArray⟩
  | _ => v = .string ⟨(O ++ (eT a1 ++ sgnT a2 ++ powT a3)).toArray⟩
theorem EV.step {p : Nat} {O : List UInt8} {a1 a2 a3 : Nat} {v : Value} {w w' : World} (i : Nat) (h : EV p O a1 a2 a3 i v w) (hg : w.grownBy w' (some p)) : EV p O a1 a2 a3 i v w' := by
  unfold EV at h ⊢
  split at h
  all_goals first | exact h | (obtain ⟨b, hb, ht⟩ := h; exact ⟨b, hb, ht.step hg⟩)
def EG (B p g : Nat) (ps : List UInt8) (vb vp vl : Value) (s : JS) (w0 : World) (k5 : Nat) (L : Done) (w : World) : Prop :=
  w0.grownBy w (some p) ∧ JW B p g ps vb vp vl { s with k := if L 14 then pickK ps (pickK ps (pickK ps k5)) else if L 8 then pickK ps (pickK ps k5) else if L 3 then pickK ps k5 else k5 } w
theorem EG.add {B p g : Nat} {ps : List UInt8} {vb vp vl : Value} {s : JS} {w0 : World} {k5 : Nat} {L : Done} {w : World} {i : Nat} (h : EG B p g ps vb vp vl s w0 k5 L w) (h1 : 3 ≠ i) (h2 : 8 ≠ i) (h3 : 14 ≠ i) : EG B p g ps vb vp vl s w0 k5 (L.add i) w := by
  unfold EG Done.add at *
  rw [if_neg h1, if_neg h2, if_neg h3]
  exact h
theorem EG.alloc {B p g : Nat} {ps : List UInt8} {vb vp vl : Value} {s : JS} {w0 : World} {k5 : Nat} {L : Done} {w : World} {i : Nat} (h : EG B p g ps vb vp vl s w0 k5 L w) (h1 : 3 ≠ i) (h2 : 8 ≠ i) (h3 : 14 ≠ i) (o : Obj) : EG B p g ps vb vp vl s w0 k5 (L.add i) (w.alloc o) := by
  have := h.add h1 h2 h3
  exact ⟨grownBy_trans this.1 (World.grownBy_alloc w o _), this.2.alloc o⟩

set_option maxRecDepth 100000 in
set_option maxHeartbeats 1000000 in
theorem number_any (B p g : Nat) (ps : List UInt8) (vb vp vl : Value) (s : JS) (w : World) (h : JW B p g ps vb vp vl s w) (hk : s.k ≤ 70000000) (hps : ps.length ≤ 2147483647)
    (t : List UInt8) (ht : t.length ≤ 300) :
    Calls Try.prog 17 #[.pointer (some ⟨p, 0, none⟩), .string ⟨t.toArray⟩] w fun e w' => e = .returned (.string ⟨(numberJ ps s.k t).toArray⟩) ∧ JW B p g ps vb vp vl { s with k := numberK ps s.k } w' ∧ w.grownBy w' (some p) := by
  have hltp := h.lt
  have HH := hid h
  have HN : Hid (numberJ ps s.k t = signT (pickV ps s.k 2) ++ bodyJ t ++ (fracJ ps (pickK ps s.k)).1 ++ (expJ ps (fracJ ps (pickK ps s.k)).2).1 ∧ numberK ps s.k = (expJ ps (fracJ ps (pickK ps s.k)).2).2) := hid ⟨rfl, rfl⟩
  have hk1 := pickK_le ps s.k
  have HP1 : Hid (∀ w, JW B p g ps vb vp vl s w → Calls Try.prog 20 #[.pointer (some ⟨p, 0, none⟩), .int .i64 2] w (Picked B p g ps vb vp vl s 2 w)) := hid fun w h => pick_any B p g ps vb vp vl s 2 w h (by decide) (by decide) (by omega) hps
  unfold Picked at HP1
  have hv1 := pickV_lt ps s.k 2 (by decide)
  generalize pickV ps s.k 2 = v1 at *
  generalize pickK ps s.k = k1 at *
  have hv1i : (v1 : Int) < 2 := by omega
  have hT1 := signC_at v1 hv1
  clear h
  go_enter Try.func17, Try.ntmps17
  go_upto_block 0 with (first
    | (go_at_call 20; refine (Calls.mono (HP1.out _ (HH.out.alloc _)) ?_); rintro e w1 ⟨rfl, hj1, hg1⟩; have ht1 := hg1.cell (a := ⟨w.heap.size, v1, none⟩) (alloc_cell w signC 9 v1 hT1) (by simp; omega))
    | fail)
  have hgr1 : w.grownBy w1 (some p) := grownBy_trans (World.grownBy_alloc w _ _) hg1
  clear ht1 hT1 hg1
  go_cut [6, 7] (fun d _ wx => d = .string ⟨(digitsJ t).toArray⟩ ∧ JW B p g ps vb vp vl { s with k := k1 } wx ∧ w.grownBy wx (some p))
  case first =>
    go_wp2_with fail
    go_loopw [6, 7] (fun d i wr => ∃ j : Nat, j ≤ t.length ∧ j ≤ 20 ∧ i = .int .i64 j ∧ d = .string ⟨(digitsJ (t.take j)).toArray⟩ ∧ JW B p g ps vb vp vl { s with k := k1 } wr ∧ w.grownBy wr (some p)) (fun _ i _ => t.length - (intOf i).toNat)
    case atStart => exact ⟨0, by omega, by omega, rfl, by simp [digitsJ], hj1, hgr1⟩
    case round =>
      obtain ⟨j, hj, hj20, rfl, rfl, hjw, hgr⟩ := hrel
      have hsz := size_mk t
      have hszd := size_mk (digitsJ (t.take j))
      rw [digitsJ_len t j hj hj20] at hszd
      by_cases hlt : j < t.length ∧ j < 20
      · obtain ⟨hl1, hl2⟩ := hlt
        have HD := hid (digitsJ_snoc t j hl1 hl2)
        have bc := byte_bd t[j]
        have hb := byte_at hl1 (by rw [hsz]; exact hl1)
        obtain ⟨d, hd⟩ : ∃ d, d = t[j].toNat % 10 := ⟨_, rfl⟩
        rw [← hd] at HD
        have hdi : (t[j].toNat : Int) % 10 = (d : Int) := by omega
        have hd10 : (d : Int) < 10 := by omega
        have hdx := digs_at d (by omega)
        unfold digs at hdx
        generalize t[j].toNat = cn at *
        clear hd
        go_wp2_with fail
        go_quiet (fail)
        go_wp2_with fail
        go_roundw
        case rel => exact ⟨j + 1, by omega, by omega, by go_num, by rw [HD.out, ofNat48]; exact congrArg Value.string (bytes_append _ [_]), hjw.drewN _, grownBy_trans hgr (grownBy_of_below (a := wr) (b := wr.drewN _) ⟨rfl, rfl, rfl, Nat.le_refl _, fun _ _ => rfl⟩ _)⟩
        case measure => simp [intOf]; omega
      · have hfin : digitsJ (t.take j) = digitsJ t := by
          unfold digitsJ
          rw [List.take_take]
          congr 1
          by_cases h : j < t.length
          · rw [show min 20 j = 20 by omega]
          · rw [List.take_of_length_le (by omega), List.take_of_length_le (by omega)]
        have HFI := hid hfin
        have hex : ¬ ((j : Int) < (t.length : Int)) ∨ (((j : Int) < (t.length : Int)) ∧ ¬ ((j : Int) < 20)) := by omega
        clear hfin hlt
        rcases hex with hx1 | ⟨hx1, hx2⟩
        all_goals
          go_wp2_with fail
          go_meet
          exact ⟨by rw [HFI.out], hjw, hgr⟩
  case rest =>
    obtain ⟨rfl, hj2, hgr2⟩ := hcut
    have hdl : (digitsJ t).length ≤ 20 := by unfold digitsJ; simp; omega
    have HBD : Hid (bodyJ t = noughtJ (stripJ (digitsJ t))) := hid rfl
    have HBL : Hid ((bodyJ t).length ≤ 20) := hid (bodyJ_len t)
    generalize digitsJ t = D at *
    generalize bodyJ t = BD at *
    clear hj1 hgr1 hltp
    go_upto_block 2 with fail
    go_cut [6] (fun d wx => d = .string ⟨(stripJ D).toArray⟩ ∧ wx = wc)
    case first =>
      go_wp2_with fail
      go_loop [6] (fun d => ∃ l : List UInt8, d = .string ⟨l.toArray⟩ ∧ stripJ l = stripJ D ∧ l.length ≤ 20) (fun d => match d with | .string s => s.size | _ => 0)
      case atStart => exact ⟨D, rfl, rfl, hdl⟩
      case round =>
        obtain ⟨l, rfl, hsl, hll⟩ := hrel
        have HSL := hid hsl
        clear hsl
        have hsz := size_mk l
        rcases l with _ | ⟨c, _ | ⟨d, l⟩⟩
        · go_wp2_with fail
          go_meet
          exact ⟨by rw [← HSL.out]; rfl, rfl⟩
        · go_wp2_with fail
          go_meet
          exact ⟨by rw [← HSL.out]; rfl, rfl⟩
        · have hh := head_byte c (d :: l) (by rw [hsz]; simp)
          have hx := extract_one c (d :: l)
          have hst : stripJ (c :: d :: l) = if c = 48 then stripJ (d :: l) else c :: d :: l := rfl
          have bc := byte_bd c
          have hc48 : c = 48 ↔ (c.toNat : Int) = 48 := by
            constructor
            · rintro rfl; rfl
            · intro h; exact UInt8.toNat_inj.1 (by show c.toNat = 48; omega)
          have HC48 := hid hc48
          have HST := hid hst
          simp only [List.length_cons] at hsz hx
          clear hst hc48
          by_cases hz : ((c.toNat : Int) == 48) = true
          · go_wp2_with fail
            go_round
            case rel => exact ⟨d :: l, by first | rfl | simp, by rw [← HSL.out, HST.out, if_pos (HC48.out.2 (by simpa using hz))], by simp at hll ⊢; omega⟩
            case measure => simp [ByteArray.size]
          · have hz' : ((c.toNat : Int) == 48) = false := by simpa using hz
            clear hz
            go_wp2_with fail
            go_meet
            exact ⟨by rw [← HSL.out, HST.out, if_neg (fun h => by simp [HC48.out.1 h] at hz')], rfl⟩
    case rest =>
      obtain ⟨rfl, rfl⟩ := hcut
      go_upto_if 47 with fail
      go_cut [6] (fun d wx => d = .string ⟨BD.toArray⟩ ∧ wx = wc)
      case first =>
        generalize stripJ D = E at *
        rcases E with _ | ⟨e, E⟩
        · go_wp2_with fail
          go_meet
          exact ⟨by rw [HBD.out]; rfl, rfl⟩
        · go_wp2_with fail
          go_meet
          exact ⟨by rw [HBD.out]; rfl, rfl⟩
      case rest =>
        obtain ⟨rfl, rfl⟩ := hcut
        have hbl : BD.length ≤ 20 := HBL.out
        have hsl : (signT v1).length ≤ 1 := by unfold signT; split <;> decide
        clear HBD HP1 hdl
        have HP2 : Hid (∀ w, JW B p g ps vb vp vl { s with k := k1 } w → Calls Try.prog 20 #[.pointer (some ⟨p, 0, none⟩), .int .i64 3] w (Picked B p g ps vb vp vl { s with k := k1 } 3 w)) := hid fun w h => pick_any B p g ps vb vp vl _ 3 w h (by decide) (by decide) (by simp only; omega) hps
        unfold Picked at HP2
        have hkf := (fracJ_le ps k1).2
        have hyes := fracJ_yes (ps := ps) (k := k1)
        have hno := fracJ_no (ps := ps) (k := k1)
        have hk2 := pickK_le ps k1
        have hba := bytes_append (signT v1) BD
        have hs1 := size_mk (signT v1)
        have hs2 := size_mk BD
        simp only at HP2
        generalize pickV ps k1 3 = v2 at *
        generalize hk2e : pickK ps k1 = k2 at *
        go_upto_if 53 with (first
          | (go_at_call 20; refine (Calls.mono (HP2.out _ hj2) ?_); rintro e w2 ⟨rfl, hj3, hg3⟩)
          | fail)
        have hgr3 := grownBy_trans hgr2 hg3
        clear hj2 hgr2 hg3 HP2
        have hfbl := (fracJ_le ps k1).1
        generalize hfj : fracJ ps k1 = FJ at *
        obtain ⟨fb, fk⟩ := FJ
        go_cut [5] (fun o wx => o = .string ⟨(signT v1 ++ BD ++ fb).toArray⟩ ∧ JW B p g ps vb vp vl { s with k := fk } wx ∧ w.grownBy wx (some p))
        case first =>
          by_cases h1 : v2 = 1
          · have hy := hyes h1
            have e1 : ((v2 : Int) == 1) = true := by simp; omega
            simp only [Prod.mk.injEq] at hy
            obtain ⟨rfl, rfl⟩ := hy
            clear hyes hno h1
            have HP3 : Hid (∀ w, JW B p g ps vb vp vl { s with k := k2 } w → Calls Try.prog 20 #[.pointer (some ⟨p, 0, none⟩), .int .i64 4] w (Picked B p g ps vb vp vl { s with k := k2 } 4 w)) := hid fun w h => pick_any B p g ps vb vp vl _ 4 w h (by decide) (by decide) (by simp only; omega) hps
            unfold Picked at HP3
            have hv4 := pickV_lt ps k2 4 (by decide)
            simp only at HP3
            generalize pickV ps k2 4 = v4 at *
            generalize pickK ps k2 = k3 at *
            have hv4i : (v4 : Int) < 4 := by omega
            have hT4 := fracC_at v4 hv4
            have hlt2 := hj3.lt
            have hba2 := bytes_append (signT v1 ++ BD) (fracT v4)
            have hs3 := size_mk (signT v1 ++ BD)
            have hs4 := size_mk (fracT v4)
            have hfl : (fracT v4).length ≤ 7 := by unfold fracT; split <;> decide
            have hsl2 : (signT v1 ++ BD).length ≤ 21 := by simp; omega
            go_wp2_with (first
              | (go_at_call 20; refine (Calls.mono (HP3.out _ (hj3.alloc _)) ?_); rintro e w3 ⟨rfl, hj4, hg4⟩; have ht4 := hg4.cell (a := ⟨w2.heap.size, v4, none⟩) (alloc_cell w2 fracC 9 v4 hT4) (by simp; omega))
              | fail)
            go_meet
            exact ⟨by simp, hj4, grownBy_trans (grownBy_trans hgr3 (World.grownBy_alloc w2 _ _)) hg4⟩
          · have hn := hno h1
            have e1 : ((v2 : Int) == 1) = false := by simp; omega
            simp only [Prod.mk.injEq] at hn
            obtain ⟨rfl, rfl⟩ := hn
            clear hyes hno h1
            go_wp2_with fail
            go_meet
            exact ⟨by simp, hj3, hgr3⟩
        case rest =>
          obtain ⟨rfl, hj4, hgr4⟩ := hcut
          have hk2 : fk ≤ s.k + 3 := by simp only at hkf; omega
          have hfl : fb.length ≤ 7 := hfbl
          clear hyes hno hkf hk2e hj3 hgr3 hba
          have HP5 : Hid (∀ w, JW B p g ps vb vp vl { s with k := fk } w → Calls Try.prog 20 #[.pointer (some ⟨p, 0, none⟩), .int .i64 3] w (Picked B p g ps vb vp vl { s with k := fk } 3 w)) := hid fun w h => pick_any B p g ps vb vp vl _ 3 w h (by decide) (by decide) (by simp only; omega) hps
          unfold Picked at HP5
          simp only at HP5
          have hyes := expJ_yes (ps := ps) (k := fk)
          have hno := expJ_no (ps := ps) (k := fk)
          have hk5 := pickK_le ps fk
          generalize pickV ps fk 3 = v5 at *
          generalize pickK ps fk = k5 at *
          go_upto_if 63 with (first
            | (go_at_call 20; refine (Calls.mono (HP5.out _ hj4) ?_); rintro e w5 ⟨rfl, hj5, hg5⟩)
            | fail)
          have hgr5 := grownBy_trans hgr4 hg5
          clear hj4 hgr4 hg5 HP5
          generalize hej : expJ ps fk = EJ at *
          obtain ⟨eb, ek⟩ := EJ
          generalize hO : signT v1 ++ BD ++ fb = O at *
          go_cut [5] (fun o wx => o = .string ⟨(O ++ eb).toArray⟩ ∧ JW B p g ps vb vp vl { s with k := ek } wx ∧ w.grownBy wx (some p))
          case first =>
            by_cases h1 : v5 = 1
            · have hy := hyes h1
              have e1 : ((v5 : Int) == 1) = true := by simp; omega
              simp only [Prod.mk.injEq] at hy
              obtain ⟨rfl, rfl⟩ := hy
              clear hyes hno h1
              go_wp2_with fail
              have hp5 := hj5.lt
              have hv6 := pickV_lt ps k5 2 (by decide)
              have hv7 := pickV_lt ps (pickK ps k5) 3 (by decide)
              have hv8 := pickV_lt ps (pickK ps (pickK ps k5)) 4 (by decide)
              have hk6 := pickK_le ps k5
              have hk7 := pickK_le ps (pickK ps k5)
              have HP6 : Hid (∀ w, JW B p g ps vb vp vl { s with k := k5 } w → Calls Try.prog 20 #[.pointer (some ⟨p, 0, none⟩), .int .i64 2] w (Picked B p g ps vb vp vl { s with k := k5 } 2 w)) := hid fun w h => pick_any B p g ps vb vp vl _ 2 w h (by decide) (by decide) (by simp only; omega) hps
              have HP7 : Hid (∀ w, JW B p g ps vb vp vl { s with k := pickK ps k5 } w → Calls Try.prog 20 #[.pointer (some ⟨p, 0, none⟩), .int .i64 3] w (Picked B p g ps vb vp vl { s with k := pickK ps k5 } 3 w)) := hid fun w h => pick_any B p g ps vb vp vl _ 3 w h (by decide) (by decide) (by simp only; omega) hps
              have HP8 : Hid (∀ w, JW B p g ps vb vp vl { s with k := pickK ps (pickK ps k5) } w → Calls Try.prog 20 #[.pointer (some ⟨p, 0, none⟩), .int .i64 4] w (Picked B p g ps vb vp vl { s with k := pickK ps (pickK ps k5) } 4 w)) := hid fun w h => pick_any B p g ps vb vp vl _ 4 w h (by decide) (by decide) (by simp only; omega) hps
              have hol : (signT v1 ++ (BD ++ fb)).length ≤ 100 := by simp; omega
              have hOO : signT v1 ++ (BD ++ fb) = O := by rw [← hO]; simp
              rw [hOO] at hol ⊢
              clear hOO hO
              unfold Picked at HP6 HP7 HP8
              simp only at HP6 HP7 HP8
              generalize pickV ps k5 2 = a1 at *
              generalize pickV ps (pickK ps k5) 3 = a2 at *
              generalize pickV ps (pickK ps (pickK ps k5)) 4 = a3 at *
              have he1 : (eT a1).length ≤ 1 := by unfold eT; split <;> decide
              have he2 : (sgnT a2).length ≤ 1 := by
                unfold sgnT
                split
                · decide
                · split <;> decide
              have he3 : (powT a3).length ≤ 2 := by unfold powT; split <;> decide
              refine wp_region_rule (EV p O a1 a2 a3) (fun w w' => w.grownBy w' (some p)) (EG B p g ps vb vp vl s w5 k5) (by kernel_rfl) (by kernel_rfl) (fun i v w w' => EV.step i) ⟨⟨rfl, rfl, rfl, Nat.le_refl _, fun _ _ _ => rfl⟩, hj5.drew⟩ ?_ ?_
              · intro i o L a wa ho hL hdeps hF hG
                have hi : i < 20 := (Array.getElem?_eq_some_iff.1 ho).1
                obtain rfl | rfl | rfl | rfl | rfl | rfl | rfl | rfl | rfl | rfl | rfl | rfl | rfl | rfl | rfl | rfl | rfl | rfl | rfl | rfl : i = 0 ∨ i = 1 ∨ i = 2 ∨ i = 3 ∨ i = 4 ∨ i = 5 ∨ i = 6 ∨ i = 7 ∨ i = 8 ∨ i = 9 ∨ i = 10 ∨ i = 11 ∨ i = 12 ∨ i = 13 ∨ i = 14 ∨ i = 15 ∨ i = 16 ∨ i = 17 ∨ i = 18 ∨ i = 19 := by omega
                · simp only [List.getElem?_toArray, List.getElem?_cons_zero, Option.some.injEq] at ho
                  subst ho
                  have L19 : L 19 = false := by
                    cases hc : L 19 with
                    | false => rfl
                    | true => have := hF.closed 19 _ rfl hc ⟨0, .phase⟩ (by simp) rfl; rw [hL] at this; cases this
                  have h5 := hF.keep 5 [19] (by kernel_rfl) (by simpa using L19)
                  simp only [List.getElem?_toArray, List.getElem?_cons_zero, List.getElem?_cons_succ] at h5
                  simp only [Oper.wp, execOp, Act.eval, Array.getD_eq_getD_getElem?, Option.getD_some, Sem.run_pure, Oper.upon, h5]
                  exact ⟨_, rfl, rfl, grownBy_refl _ _, EG.add hG (by decide) (by decide) (by decide)⟩
                · simp only [List.getElem?_toArray, List.getElem?_cons_zero, List.getElem?_cons_succ, Option.some.injEq] at ho
                  subst ho
                  have hgs := hG.2.lt
                  clear hF hdeps
                  go_simp
                  exact ⟨_, rfl, ⟨_, rfl, Tab.new _ _ hgs⟩, World.grownBy_alloc _ _ _, hG.alloc (by decide) (by decide) (by decide) _⟩
                · simp only [List.getElem?_toArray, List.getElem?_cons_zero, List.getElem?_cons_succ, Option.some.injEq] at ho
                  subst ho
                  have h0 := hF.keep 0 [] (by kernel_rfl) (by simp)
                  simp only [List.getElem?_toArray, List.getElem?_cons_zero] at h0
                  simp only [Oper.wp, execOp, Act.eval, Array.getD_eq_getD_getElem?, Option.getD_some, Sem.run_pure, Oper.upon, h0]
                  exact ⟨_, rfl, rfl, grownBy_refl _ _, EG.add hG (by decide) (by decide) (by decide)⟩
                · simp only [List.getElem?_toArray, List.getElem?_cons_zero, List.getElem?_cons_succ, Option.some.injEq] at ho
                  subst ho
                  have L2 : L 2 = true := hdeps ⟨2, .data⟩ (by simp) rfl
                  obtain ⟨v2, t2, V2⟩ := hF.yields 2 _ 66 rfl L2 rfl
                  obtain rfl : v2 = _ := V2
                  have hJ := hG.2
                  have f8 : L 8 = false := by
                    cases hc : L 8 with
                    | false => rfl
                    | true => have := hF.closed 8 _ rfl hc ⟨3, .chain⟩ (by simp) rfl; rw [hL] at this; cases this
                  have f14 : L 14 = false := by
                    cases hc : L 14 with
                    | false => rfl
                    | true => have := hF.closed 14 _ rfl hc ⟨8, .chain⟩ (by simp) rfl; rw [f8] at this; cases this
                  simp only [f14, f8, hL, Bool.false_eq_true, if_false] at hJ
                  have hG1 := hG.1
                  clear hF hdeps hG
                  go_simp
                  refine (Calls.mono (HP6.out _ hJ) ?_)
                  rintro e w6 ⟨rfl, hj6, hg6⟩
                  exact ⟨_, rfl, rfl, hg6, grownBy_trans hG1 hg6, by simp only [Done.add, f14, f8]; simpa using hj6⟩
                · simp only [List.getElem?_toArray, List.getElem?_cons_zero, List.getElem?_cons_succ, Option.some.injEq] at ho
                  subst ho
                  have L1 : L 1 = true := hdeps ⟨1, .data⟩ (by simp) rfl
                  have L3 : L 3 = true := hdeps ⟨3, .data⟩ (by simp) rfl
                  obtain ⟨v1, t1, V1⟩ := hF.yields 1 _ 65 rfl L1 rfl
                  obtain ⟨v3, t3, V3⟩ := hF.yields 3 _ 67 rfl L3 rfl
                  obtain ⟨b, rfl, hb⟩ := V1
                  obtain rfl : v3 = _ := V3
                  have hai : (a1 : Int) < 2 := by omega
                  clear hF hdeps
                  go_simp
                  exact ⟨_, rfl, ⟨b, rfl, hb⟩, grownBy_refl _ _, EG.add hG (by decide) (by decide) (by decide)⟩
                · simp only [List.getElem?_toArray, List.getElem?_cons_zero, List.getElem?_cons_succ, Option.some.injEq] at ho
                  subst ho
                  have L4 : L 4 = true := hdeps ⟨4, .data⟩ (by simp) rfl
                  obtain ⟨v4, t4, V4⟩ := hF.yields 4 _ 68 rfl L4 rfl
                  obtain ⟨b, rfl, hb⟩ := V4
                  have hc := hb.2.2 _ _ (eC_at a1 hv6)
                  clear hF hdeps
                  go_simp
                  exact ⟨_, rfl, rfl, grownBy_refl _ _, EG.add hG (by decide) (by decide) (by decide)⟩
                · simp only [List.getElem?_toArray, List.getElem?_cons_zero, List.getElem?_cons_succ, Option.some.injEq] at ho
                  subst ho
                  have hgs := hG.2.lt
                  clear hF hdeps
                  go_simp
                  exact ⟨_, rfl, ⟨_, rfl, Tab.new _ _ hgs⟩, World.grownBy_alloc _ _ _, hG.alloc (by decide) (by decide) (by decide) _⟩
                · simp only [List.getElem?_toArray, List.getElem?_cons_zero, List.getElem?_cons_succ, Option.some.injEq] at ho
                  subst ho
                  have h0 := hF.keep 0 [] (by kernel_rfl) (by simp)
                  simp only [List.getElem?_toArray, List.getElem?_cons_zero] at h0
                  simp only [Oper.wp, execOp, Act.eval, Array.getD_eq_getD_getElem?, Option.getD_some, Sem.run_pure, Oper.upon, h0]
                  exact ⟨_, rfl, rfl, grownBy_refl _ _, EG.add hG (by decide) (by decide) (by decide)⟩
                · simp only [List.getElem?_toArray, List.getElem?_cons_zero, List.getElem?_cons_succ, Option.some.injEq] at ho
                  subst ho
                  have L7 : L 7 = true := hdeps ⟨7, .data⟩ (by simp) rfl
                  have L3 : L 3 = true := hdeps ⟨3, .chain⟩ (by simp) rfl
                  obtain ⟨v7, t7, V7⟩ := hF.yields 7 _ 71 rfl L7 rfl
                  obtain rfl : v7 = _ := V7
                  have hJ := hG.2
                  have f14 : L 14 = false := by
                    cases hc : L 14 with
                    | false => rfl
                    | true => have := hF.closed 14 _ rfl hc ⟨8, .chain⟩ (by simp) rfl; rw [hL] at this; cases this
                  simp only [f14, hL, L3, Bool.false_eq_true, if_false, if_true] at hJ
                  have hG1 := hG.1
                  clear hF hdeps hG
                  go_simp
                  refine (Calls.mono (HP7.out _ hJ) ?_)
                  rintro e w6 ⟨rfl, hj6, hg6⟩
                  exact ⟨_, rfl, rfl, hg6, grownBy_trans hG1 hg6, by simp only [Done.add, f14]; simpa using hj6⟩
                · simp only [List.getElem?_toArray, List.getElem?_cons_zero, List.getElem?_cons_succ, Option.some.injEq] at ho
                  subst ho
                  have L6 : L 6 = true := hdeps ⟨6, .data⟩ (by simp) rfl
                  have L8 : L 8 = true := hdeps ⟨8, .data⟩ (by simp) rfl
                  obtain ⟨v6, t6, V6⟩ := hF.yields 6 _ 70 rfl L6 rfl
                  obtain ⟨v8, t8, V8⟩ := hF.yields 8 _ 72 rfl L8 rfl
                  obtain ⟨b, rfl, hb⟩ := V6
                  obtain rfl : v8 = _ := V8
                  have hai : (a2 : Int) < 3 := by omega
                  clear hF hdeps
                  go_simp
                  exact ⟨_, rfl, ⟨b, rfl, hb⟩, grownBy_refl _ _, EG.add hG (by decide) (by decide) (by decide)⟩
                · simp only [List.getElem?_toArray, List.getElem?_cons_zero, List.getElem?_cons_succ, Option.some.injEq] at ho
                  subst ho
                  have L9 : L 9 = true := hdeps ⟨9, .data⟩ (by simp) rfl
                  obtain ⟨v9, t9, V9⟩ := hF.yields 9 _ 73 rfl L9 rfl
                  obtain ⟨b, rfl, hb⟩ := V9
                  have hc := hb.2.2 _ _ (sgC_at a2 hv7)
                  clear hF hdeps
                  go_simp
                  exact ⟨_, rfl, rfl, grownBy_refl _ _, EG.add hG (by decide) (by decide) (by decide)⟩
                · simp only [List.getElem?_toArray, List.getElem?_cons_zero, List.getElem?_cons_succ, Option.some.injEq] at ho
                  subst ho
                  have L5 : L 5 = true := hdeps ⟨5, .data⟩ (by simp) rfl
                  have L10 : L 10 = true := hdeps ⟨10, .data⟩ (by simp) rfl
                  obtain ⟨v5, t5, V5⟩ := hF.yields 5 _ 69 rfl L5 rfl
                  obtain ⟨v10, t10, V10⟩ := hF.yields 10 _ 74 rfl L10 rfl
                  obtain rfl : v5 = _ := V5
                  obtain rfl : v10 = _ := V10
                  have z1 := size_mk (eT a1)
                  have z2 := size_mk (sgnT a2)
                  have z3 := bytes_append (eT a1) (sgnT a2)
                  clear hF hdeps
                  go_simp
                  rw [if_neg (by omega)]
                  exact ⟨_, rfl, (by simp [EV]), grownBy_refl _ _, EG.add hG (by decide) (by decide) (by decide)⟩
                · simp only [List.getElem?_toArray, List.getElem?_cons_zero, List.getElem?_cons_succ, Option.some.injEq] at ho
                  subst ho
                  have hgs := hG.2.lt
                  clear hF hdeps
                  go_simp
                  exact ⟨_, rfl, ⟨_, rfl, Tab.new _ _ hgs⟩, World.grownBy_alloc _ _ _, hG.alloc (by decide) (by decide) (by decide) _⟩
                · simp only [List.getElem?_toArray, List.getElem?_cons_zero, List.getElem?_cons_succ, Option.some.injEq] at ho
                  subst ho
                  have h0 := hF.keep 0 [] (by kernel_rfl) (by simp)
                  simp only [List.getElem?_toArray, List.getElem?_cons_zero] at h0
                  simp only [Oper.wp, execOp, Act.eval, Array.getD_eq_getD_getElem?, Option.getD_some, Sem.run_pure, Oper.upon, h0]
                  exact ⟨_, rfl, rfl, grownBy_refl _ _, EG.add hG (by decide) (by decide) (by decide)⟩
                · simp only [List.getElem?_toArray, List.getElem?_cons_zero, List.getElem?_cons_succ, Option.some.injEq] at ho
                  subst ho
                  have L13 : L 13 = true := hdeps ⟨13, .data⟩ (by simp) rfl
                  have L8 : L 8 = true := hdeps ⟨8, .chain⟩ (by simp) rfl
                  obtain ⟨v13, t13, V13⟩ := hF.yields 13 _ 77 rfl L13 rfl
                  obtain rfl : v13 = _ := V13
                  have hJ := hG.2
                  simp only [hL, L8, Bool.false_eq_true, if_false, if_true] at hJ
                  have hG1 := hG.1
                  clear hF hdeps hG
                  go_simp
                  refine (Calls.mono (HP8.out _ hJ) ?_)
                  rintro e w6 ⟨rfl, hj6, hg6⟩
                  exact ⟨_, rfl, rfl, hg6, grownBy_trans hG1 hg6, by simp only [Done.add]; simpa using hj6⟩
                · simp only [List.getElem?_toArray, List.getElem?_cons_zero, List.getElem?_cons_succ, Option.some.injEq] at ho
                  subst ho
                  have L12 : L 12 = true := hdeps ⟨12, .data⟩ (by simp) rfl
                  have L14 : L 14 = true := hdeps ⟨14, .data⟩ (by simp) rfl
                  obtain ⟨v12, t12, V12⟩ := hF.yields 12 _ 76 rfl L12 rfl
                  obtain ⟨v14, t14, V14⟩ := hF.yields 14 _ 78 rfl L14 rfl
                  obtain ⟨b, rfl, hb⟩ := V12
                  obtain rfl : v14 = _ := V14
                  have hai : (a3 : Int) < 4 := by omega
                  clear hF hdeps
                  go_simp
                  exact ⟨_, rfl, ⟨b, rfl, hb⟩, grownBy_refl _ _, EG.add hG (by decide) (by decide) (by decide)⟩
                · simp only [List.getElem?_toArray, List.getElem?_cons_zero, List.getElem?_cons_succ, Option.some.injEq] at ho
                  subst ho
                  have L15 : L 15 = true := hdeps ⟨15, .data⟩ (by simp) rfl
                  obtain ⟨v15, t15, V15⟩ := hF.yields 15 _ 79 rfl L15 rfl
                  obtain ⟨b, rfl, hb⟩ := V15
                  have hc := hb.2.2 _ _ (poC_at a3 hv8)
                  clear hF hdeps
                  go_simp
                  exact ⟨_, rfl, rfl, grownBy_refl _ _, EG.add hG (by decide) (by decide) (by decide)⟩
                · simp only [List.getElem?_toArray, List.getElem?_cons_zero, List.getElem?_cons_succ, Option.some.injEq] at ho
                  subst ho
                  have L11 : L 11 = true := hdeps ⟨11, .data⟩ (by simp) rfl
                  have L16 : L 16 = true := hdeps ⟨16, .data⟩ (by simp) rfl
                  obtain ⟨v11, t11, V11⟩ := hF.yields 11 _ 75 rfl L11 rfl
                  obtain ⟨v16, t16, V16⟩ := hF.yields 16 _ 80 rfl L16 rfl
                  obtain rfl : v11 = _ := V11
                  obtain rfl : v16 = _ := V16
                  have z1 := size_mk (eT a1 ++ sgnT a2)
                  have z2 := size_mk (powT a3)
                  have z3 := bytes_append (eT a1 ++ sgnT a2) (powT a3)
                  clear hF hdeps
                  go_simp
                  rw [if_neg (by omega)]
                  exact ⟨_, rfl, (by simp [EV]), grownBy_refl _ _, EG.add hG (by decide) (by decide) (by decide)⟩
                · simp only [List.getElem?_toArray, List.getElem?_cons_zero, List.getElem?_cons_succ, Option.some.injEq] at ho
                  subst ho
                  have L0 : L 0 = true := hdeps ⟨0, .data⟩ (by simp) rfl
                  have L17 : L 17 = true := hdeps ⟨17, .data⟩ (by simp) rfl
                  obtain ⟨v0, t0, V0⟩ := hF.yields 0 _ 64 rfl L0 rfl
                  obtain ⟨v17, t17, V17⟩ := hF.yields 17 _ 81 rfl L17 rfl
                  obtain rfl : v0 = _ := V0
                  obtain rfl : v17 = _ := V17
                  have z1 := size_mk (O)
                  have z2 := size_mk (eT a1 ++ (sgnT a2 ++ powT a3))
                  have z3 := bytes_append (O) (eT a1 ++ (sgnT a2 ++ powT a3))
                  clear hF hdeps
                  go_simp
                  rw [if_neg (by omega)]
                  exact ⟨_, rfl, (by simp [EV]), grownBy_refl _ _, EG.add hG (by decide) (by decide) (by decide)⟩
                · simp only [List.getElem?_toArray, List.getElem?_cons_zero, List.getElem?_cons_succ, Option.some.injEq] at ho
                  subst ho
                  have L18 : L 18 = true := hdeps ⟨18, .data⟩ (by simp) rfl
                  obtain ⟨v18, t18, V18⟩ := hF.yields 18 _ 82 rfl L18 rfl
                  simp only [Oper.wp, execOp, Act.eval, Array.getD_eq_getD_getElem?, Option.getD_some, Sem.run_pure, Oper.upon, t18]
                  exact ⟨_, rfl, V18, grownBy_refl _ _, EG.add hG (by decide) (by decide) (by decide)⟩
              · intro y wx L hall hy hG
                have h19 : y 19 = .string ⟨(O ++ (eT a1 ++ sgnT a2 ++ powT a3)).toArray⟩ := hy 19 (by decide)
                have hJ := hG.2
                simp only [hall 14 (by decide), if_true] at hJ
                have hGr := grownBy_trans hgr5 hG.1
                clear hy hall hG HP6 HP7 HP8
                simp only [frameOf, dstOf, List.getElem?_toArray, List.getElem?_cons_zero, List.getElem?_cons_succ, Option.bind_some, Act.put, List.size_toArray, List.length_cons, List.length_nil, Nat.zero_add, Nat.reduceAdd, h19]
                clear h19 hj5 hp5
                simp only [List.setIfInBounds_toArray, List.set_cons_zero, List.set_cons_succ]
                clear hol
                go_wp2_with fail
                go_meet
                exact ⟨by simp, hJ, hGr⟩
            · have hn := hno h1
              have e1 : ((v5 : Int) == 1) = false := by simp; omega
              simp only [Prod.mk.injEq] at hn
              obtain ⟨rfl, rfl⟩ := hn
              clear hyes hno h1
              go_wp2_with fail
              go_meet
              exact ⟨by rw [← hO]; simp, hj5, hgr5⟩
          case rest =>
            obtain ⟨rfl, hj6, hgr6⟩ := hcut
            go_wp2_with fail
            go_ret
            refine ⟨?_, ?_, hgr6⟩
            · rw [HN.out.1]; rfl
            · rw [HN.out.2]; exact hj6
end Go.Proofs.Ytjkmmhnhhiopiaa
