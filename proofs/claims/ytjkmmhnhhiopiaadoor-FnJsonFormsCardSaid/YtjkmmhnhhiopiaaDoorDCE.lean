/-
  Consume moves the reader on, and an error at a place is made: what each leaves in memory.
-/
import Derived.Test.YtjkmmhnhhiopiaaDoorDState
import Derived.Test.YtjkmmhnhhiopiaaDoorGuard
import Derived.BigQuiet

namespace Go.Proofs.YtjkmmhnhhiopiaaDoor
open Go.ChangeShapes Go.WideShapes Go.ChangeAt Go.RowKit

def inLen (p : Nat) (w : World) : Nat := match w.cell? ⟨p, 9, none⟩ with
  | some (.slice _ n _) => n
  | _ => 0
theorem inLen_of {p : Nat} {w : World} {ao : Option Addr} {n c : Nat} (h : w.cell? ⟨p, 9, none⟩ = some (.slice ao n c)) : inLen p w = n := by unfold inLen; rw [h]
theorem goN_stop {bs : List UInt8} {k : Nat} (h : bs.drop k = [] ∨ ∃ c l, bs.drop k = c :: l ∧ wsC c = false) : goN bs k 0 = k := by
  unfold goN
  rw [Nat.add_zero]
  rcases h with h | ⟨c, l, h, hc⟩
  · rw [h]; try rfl
  · rw [h, wsN_cons, hc]; try rfl
theorem goN_go {bs : List UInt8} {k : Nat} {c : UInt8} {l : List UInt8} (h : bs.drop k = c :: l) (hc : wsC c = true) : goN bs k 0 = goN bs (k + 1) 0 := by
  have h1 : bs.drop (k + 1) = l := by rw [← List.drop_drop, h]; try rfl
  unfold goN
  rw [Nat.add_zero, Nat.add_zero, h, h1, wsN_cons, hc, if_pos rfl]
  omega
theorem goN_add (bs : List UInt8) (k n : Nat) : goN bs k n = goN bs (k + n) 0 := rfl

variable {B p g : Nat} {bs : List UInt8} {vr ve vst vo vi : Value}
theorem DW.c9 {s : DS} {w : World} (h : DW B p g bs vr ve vst vo vi s w) : w.cell? ⟨p, 9, none⟩ = some vi ∧ w.frozen? ⟨p, 9, none⟩ = false := h.row 9 _ rfl
theorem DW.c8 {s : DS} {w : World} (h : DW B p g bs vr ve vst vo vi s w) : w.cell? ⟨p, 8, none⟩ = some vo ∧ w.frozen? ⟨p, 8, none⟩ = false := h.row 8 _ rfl

set_option maxRecDepth 100000 in
set_option maxHeartbeats 1000000 in
theorem consume_any (s : DS) (n : Nat) (w : World) (h : DW B p g bs vr ve vst vo vi s w) (hn : s.k + n ≤ bs.length) :
    Calls Tryd.prog 52 #[.pointer (some ⟨p, 0, none⟩), .int .i64 (n : Int)] w fun e w' => e = .returned (.tuple #[]) ∧ ∃ vi', DW B p g bs vr ve vst vo vi' { s with k := goN bs s.k n } w' ∧ w.grownBy w' (some p) := by
  obtain ⟨c9, f9⟩ := h.c9
  have hv := h.inn
  have HH := hid h
  have hlen : (bs.drop s.k).length = bs.length - s.k := by simp
  have h0 : (0 : Int) ≤ (n : Int) := by omega
  have hn1 : (n : Int) ≤ ((bs.drop s.k).length : Int) := by omega
  have hlp := h.lt
  clear h
  go_enter Tryd.func52, Tryd.ntmps52
  go_wp2_with (first | ((with_reducible refine is_from ?_); refine wpList_slice_from _ (by rfl) _ _ 28 5 rfl Tryd.underlying28 info5u _ _ _ rfl hv _ _ rfl h0 hn1 ?_; intro vs1 hvs1; try simp only [Int.toNat_natCast, List.drop_drop] at hvs1; obtain ⟨ao1, cp1, rfl⟩ := hvs1.slice) | fail)
  go_loopw [] (fun wr => ∃ vi' k, DW B p g bs vr ve vst vo vi' { s with k := k } wr ∧ goN bs s.k n = goN bs k 0 ∧ w.grownBy wr (some p)) (fun wr => inLen p wr)
  case atStart => exact ⟨_, s.k + n, HH.out.setIn (by rw [← List.length_drop]; exact hvs1) hn, goN_add _ _ _, grownBy_set w p 9 _⟩
  case round =>
    obtain ⟨vi', k, hdw, hgo, hgr⟩ := hrel
    obtain ⟨c9', f9'⟩ := hdw.c9
    have hvi := hdw.inn
    have hkl := hdw.le
    have HD := hid hdw
    have HG := hid hgo
    have HR := hid hgr
    have hlp' := hdw.lt
    simp only at hvi hkl
    clear hdw hgo hgr
    obtain ⟨ao, cp, rfl⟩ := hvi.slice
    have hmu := inLen_of c9'
    rcases hl : bs.drop k with _ | ⟨c, l⟩
    · have HS := hid (goN_stop (.inl hl))
      rw [hl] at c9' HD hmu
      clear hvi
      go_wp2_with fail
      go_end0
      rw [HG.out, HS.out]
      exact ⟨rfl, _, HD.out, HR.out⟩
    · have hl1 : bs.drop (k + 1) = l := by rw [← List.drop_drop, hl]; try rfl
      have hkl1 : k + 1 ≤ bs.length := by have := congrArg List.length hl; simp at this; omega
      rw [hl] at hvi c9' HD hmu
      have hne : (0 : Int) < ((c :: l).length : Int) := by simp <;> omega
      have hne0 : (0 : Int).toNat < (c :: l).length := by simp
      have h1le : (1 : Int) ≤ ((c :: l).length : Int) := by simp <;> omega
      cases hw : wsC c with
      | false =>
        have HS := hid (goN_stop (.inr ⟨c, l, hl, hw⟩))
        have hcs : ((c.toNat : Int) == 32) = false ∧ ((c.toNat : Int) == 10) = false ∧ ((c.toNat : Int) == 13) = false ∧ ((c.toNat : Int) == 9) = false := by
          unfold wsC at hw; simp at hw ⊢; omega
        obtain ⟨q1, q2, q3, q4⟩ := hcs
        clear hw
        go_wp2_with (first | ((with_reducible refine is_index ?_); refine wpList_index_view _ (by rfl) _ _ 28 5 rfl Tryd.underlying28 info5u _ _ _ rfl hvi _ (0 : Int) rfl (by decide) hne0 ?_; intro ad1 hc1; try simp only [Int.toNat_zero, List.getElem_cons_zero] at hc1) | fail)
        refine bodyPost_ret (results_none rfl _ _ _) rfl ?_
        rw [HG.out, HS.out]
        exact ⟨rfl, _, HD.out, HR.out⟩
      | true =>
        have HS := hid (goN_go hl hw)
        have hcs : ((c.toNat : Int) == 32) = true ∨ ((c.toNat : Int) == 32) = false ∧ (((c.toNat : Int) == 10) = true ∨ ((c.toNat : Int) == 10) = false ∧ (((c.toNat : Int) == 13) = true ∨ ((c.toNat : Int) == 13) = false ∧ ((c.toNat : Int) == 9) = true)) := by
          unfold wsC at hw; simp at hw ⊢; omega
        clear hw
        rcases hcs with q1 | ⟨q1, q2 | ⟨q2, q3 | ⟨q3, q4⟩⟩⟩
        all_goals
          go_wp2_with (first
            | ((with_reducible refine is_index ?_); refine wpList_index_view _ (by rfl) _ _ 28 5 rfl Tryd.underlying28 info5u _ _ _ rfl hvi _ (0 : Int) rfl (by decide) hne0 ?_; intro ad1 hc1; try simp only [Int.toNat_zero, List.getElem_cons_zero] at hc1)
            | ((with_reducible refine is_from ?_); refine wpList_slice_from _ (by rfl) _ _ 28 5 rfl Tryd.underlying28 info5u _ _ _ rfl hvi _ (1 : Int) rfl (by decide) h1le ?_; intro vs1 hvs1; try simp only [Int.toNat_one, List.drop_succ_cons, List.drop_zero] at hvs1; obtain ⟨ao1, cp1, rfl⟩ := hvs1.slice)
            | fail)
          go_roundw
          case rel => exact ⟨_, k + 1, HD.out.setIn (by rw [hl1]; exact hvs1) hkl1, by rw [HG.out, HS.out], grownBy_thenSet HR.out 9 _⟩
          case measure => rw [hmu, inLen_of (World.cell?_setCell_same _ _ _ c9')]; simp
end Go.Proofs.YtjkmmhnhhiopiaaDoor

namespace Go.Proofs.YtjkmmhnhhiopiaaDoor
open Go.ChangeShapes Go.WideShapes Go.ChangeAt Go.RowKit

variable {B p g : Nat} {bs : List UInt8} {vr ve vst vo vi : Value}
set_option maxRecDepth 100000 in
theorem currPos_any (s : DS) (w : World) (h : DW B p g bs vr ve vst vo vi s w) :
    Calls Tryd.prog 51 #[.pointer (some ⟨p, 0, none⟩)] w fun e w' => e = .returned (.int .i64 (s.k : Int)) ∧ Below w.heap.size w w' := by
  obtain ⟨c9, f9⟩ := h.c9
  obtain ⟨c8, f8⟩ := h.c8
  obtain ⟨ao, cp, rfl⟩ := h.inn.slice
  obtain ⟨ao2, cp2, rfl⟩ := h.orig.slice
  have HL := hid (h.le)
  have HM := hid (h.orig.len)
  have HK : Hid ((bs.length : Int) - ((bs.length - s.k : Nat) : Int) = (s.k : Int)) := hid (by have := HL.out; omega)
  clear h
  go_enter Tryd.func51, Tryd.ntmps51
  go_wp2
  go_quiet (fail)
  go_wp2
  go_ret
  refine ⟨ret_int (Eq.trans (congrArg wrap64 HK.out) (by have h1 := HL.out; have h2 := HM.out; unfold maxLen at h2; unfold wrap64; omega)), ⟨rfl, rfl, rfl, Nat.le_refl _, fun _ _ => rfl⟩⟩

set_option maxRecDepth 100000 in
theorem errorsNew_any (f : ByteArray) (v : Value) (w : World) :
    Calls Tryd.prog 74 #[.string f, v] w fun e w' => (∃ x, e = .returned (.iface 121 x)) ∧ Below w.heap.size w w' := by
  go_enter Tryd.func74, Tryd.ntmps74
  go_wp2
  go_ret
  exact ⟨⟨_, rfl⟩, (Below.refl _ _).alloc (Nat.le_refl _) _⟩

set_option maxRecDepth 100000 in
theorem newError_any (d v : Value) (k : Int) (f : ByteArray) (w : World) (hf : f.size ≤ 100000) :
    Calls Tryd.prog 49 #[d, .int .i64 k, .string f, v] w fun e w' => (∃ x, e = .returned (.iface 121 x)) ∧ Below w.heap.size w w' := by
  have h14 : ¬ 9223372036854775807 < 14 + f.size := by omega
  clear hf
  go_enter Tryd.func49, Tryd.ntmps49
  go_wp2_with (first | (go_at_call 74; refine (errorsNew_any _ _ _).mono ?_; rintro e w' ⟨⟨x, rfl⟩, hb⟩) | fail)
  go_ret
  exact ⟨⟨_, rfl⟩, hb⟩
end Go.Proofs.YtjkmmhnhhiopiaaDoor
