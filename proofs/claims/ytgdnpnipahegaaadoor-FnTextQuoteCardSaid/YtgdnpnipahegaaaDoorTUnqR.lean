/-
  The reference's unquote of the text form, walked.
-/
import Derived.Test.YtgdnpnipahegaaaDoorTReadStr
import Derived.Test.YtgdnpnipahegaaaDoorTNew
namespace Go.Proofs.YtgdnpnipahegaaaDoor
open Go.ChangeShapes Go.WideShapes Go.ChangeAt Go.RowKit

theorem refUC_eq (c : UInt8) (r : List UInt8) : refUC c r = if c.toNat ≠ 34 ∧ c.toNat ≠ 39 then ([], 2) else if (refT c.toNat (c :: r) r [] 1).2.1 ≠ 1 then ([], (refT c.toNat (c :: r) r [] 1).2.1)
    else if (refT c.toNat (c :: r) r [] 1).2.2 ≠ 0 then ([], 2) else ((refT c.toNat (c :: r) r [] 1).1, 1) := rfl
theorem refF_le (q : Nat) (whole : List UInt8) : ∀ (f : Nat) (l out : List UInt8) (told : Nat), (refF q whole f l out told).2.2 ≤ l.length
  | 0, _, _, _ => Nat.zero_le _
  | _ + 1, [], _, _ => Nat.zero_le _
  | f + 1, c :: l, out, told => by
    unfold refF
    split
    · simp
    · split
      · exact Nat.zero_le _
      · split
        · rcases escRT l with _ | ⟨x, n, ok⟩
          · exact Nat.zero_le _
          · have := refF_le q whole f (l.drop n) (out ++ x) (max told ok)
            simp at this ⊢; omega
        · have := refF_le q whole f l (out ++ [c]) (if ctlC c then 2 else told)
          simp; omega
theorem head_byte (c : UInt8) (l : List UInt8) (h : 0 < (⟨(c :: l).toArray⟩ : ByteArray).size) : ((⟨(c :: l).toArray⟩ : ByteArray)[0]'h).toNat = c.toNat := rfl
def UnqR (l : List UInt8) (w : World) (e : Ending) (w' : World) : Prop := e = .returned (.tuple #[.string ⟨(refU l).1.toArray⟩, .int .i64 ((refU l).2 : Int)]) ∧ Below w.heap.size w w'
theorem UnqR.mk {l o : List UInt8} {t : Nat} {w w' : World} (h : refU l = (o, t)) (z : Int) (hz : z = (t : Int)) (hb : Below w.heap.size w w') : UnqR l w (.returned (.tuple #[.string ⟨o.toArray⟩, .int .i64 z])) w' := by
  subst hz
  exact ⟨by rw [h], hb⟩
theorem RStrRes.some {B p g : Nat} {vb : Value} {bs : List UInt8} {w w' : World} {out : List UInt8} {t m : Nat} {e : Ending} (h : RStrRes B p g vb bs w (out, t, m) e w') : ∃ v, e = .returned (.tuple #[v, .int .i64 (t : Int)]) ∧ Grw p w w' := by
  rcases h with ⟨h0, ⟨v, rfl⟩, hg⟩ | ⟨v, rfl, _, _, hg⟩
  · refine ⟨v, ?_, hg⟩
    simp only at h0
    subst h0
    rfl
  · exact ⟨v, rfl, hg⟩
theorem size_alloc (w : World) (o : Obj) : (w.alloc o).heap.size = w.heap.size + 1 := by show (w.heap.push o).size = _; simp
set_option maxRecDepth 100000 in
set_option maxHeartbeats 1000000 in
theorem unqR_quoted (l : List UInt8) (c : UInt8) (w : World) (hb : ∀ h, (⟨l.toArray⟩ : ByteArray)[0]'h = c) (hpos : 1 ≤ l.length) (hm : l.length ≤ 1000000) (hcs : (((c.toNat : Int) != 34) = true ∧ ((c.toNat : Int) != 39) = false) ∨ ((c.toNat : Int) != 34) = false) (out : List UInt8) (t m : Nat) (hle : m < l.length)
    (HU : Hid (refU l = if t ≠ 1 then ([], t) else if m ≠ 0 then ([], 2) else (out, 1)))
    (HR : Hid (∀ (W : World) (B p g : Nat) (vb : Value), TS B p g vb l 0 W → Calls Tryd.prog 8 #[.pointer (some ⟨p, 0, none⟩)] W (RStrRes B p g vb l W (out, t, m)))) :
    Calls Tryd.prog 5 #[.string ⟨l.toArray⟩] w (UnqR l w) := by
  have hsz := size_mk l
  have hml : l.length ≤ maxLen := by unfold maxLen; omega
  have hz0 : (0 : Int) < (l.length : Int) := by omega
  have hne : l.isEmpty = false := by cases l; simp at hpos; rfl
  have bc := byte_bd c
  rcases hcs with ⟨q1, q2⟩ | q1
  all_goals
    go_enter Tryd.func5, Tryd.ntmps5
    go_upto_region 6 with (refine wpList_bytes_str _ rfl _ 9 27 5 rfl Tryd.underlying9 Tryd.underlying27 Tryd.underlying5 l rfl hml ?_; intro cap1 w1 hv1 hs1 hb1)
    have hts : TS w.heap.size w1.heap.size w.heap.size (.slice (some ⟨w.heap.size, 0, none⟩) l.length cap1) l 0 (w1.alloc (.cells #[.slice (some ⟨w.heap.size, 0, none⟩) l.length cap1, .int .i64 0, .int .i64 1, .slice none 0 0] 32)) :=
      { row := rowAt_new (heap_alloc_new w1 _)
        view := hv1.alloc _
        le := Nat.zero_le _
        bp := by omega
        gp := by omega
        gl := by rw [size_alloc]; omega }
    have hb2 := hb1.alloc (by omega) (.cells #[.slice (some ⟨w.heap.size, 0, none⟩) l.length cap1, .int .i64 0, .int .i64 1, .slice none 0 0] 32)
    generalize World.alloc w1 _ = w2 at *
    obtain ⟨p, hp⟩ : ∃ p, p = w.heap.size + 1 := ⟨_, rfl⟩
    rw [hs1, ← hp] at hts
    rw [← hp]
    generalize hvb : Value.slice (some ⟨w.heap.size, 0, none⟩) l.length cap1 = vb at *
    have HTS := hid hts
    have HB2 := hid hb2
    have hpB : w.heap.size ≤ p := by omega
    have hpB2 : w.heap.size ≤ w2.heap.size := hb2.size
    clear hts hb2 hvb hv1 hb1 hs1 hp
    by_cases ht : t = 1
    · have HR1 : Hid (∀ e w3, RStrRes w.heap.size p w.heap.size vb l w2 (out, t, m) e w3 → ∃ v, e = .returned (.tuple #[v, .int .i64 (1 : Int)]) ∧ OwnB w3 w2.heap.size 5 v out ∧ TS w.heap.size p w.heap.size vb l (l.length - m) w3 ∧ Grw p w2 w3) := hid fun e w3 h3 => by
        subst ht
        rcases h3 with ⟨h0, _⟩ | h3
        · cases h0
        · exact h3
      by_cases hm0 : m = 0
      · have HN : Hid (refU l = (out, 1)) := hid (by rw [HU.out, ht, if_neg (by simp), if_neg (by simpa using hm0)])
        have hlm : (((l.length - m : Nat) : Int) != (l.length : Int)) = false := by simp; omega
        clear ht hm0
        go_wp2_with (first
          | (go_at_call 8; refine (Calls.mono (HR.out _ _ _ _ _ HTS.out) ?_); rintro e w3 h3; obtain ⟨v3, rfl, ho3, ht3, hg3⟩ := HR1.out _ _ h3; have d1 := ht3.c.2.1; have HO3 := hid ho3; have HG3 := hid hg3; clear h3 hg3 ho3 ht3)
          | (refine wpList_string_own _ rfl _ 27 9 rfl w2.heap.size 5 Tryd.underlying27 Tryd.underlying5 Tryd.underlying9 _ out rfl HO3.out ?_)
          | fail)
        go_ret2
        exact .mk HN.out _ rfl (HB2.out.trans (HG3.out.below hpB hpB2))
      · have HN : Hid (refU l = ([], 2)) := hid (by rw [HU.out, ht, if_neg (by simp), if_pos hm0])
        have hlm : (((l.length - m : Nat) : Int) != (l.length : Int)) = true := by simp; omega
        clear ht hm0
        go_wp2_with (first
          | (go_at_call 8; refine (Calls.mono (HR.out _ _ _ _ _ HTS.out) ?_); rintro e w3 h3; obtain ⟨v3, rfl, ho3, ht3, hg3⟩ := HR1.out _ _ h3; have d1 := ht3.c.2.1; have HO3 := hid ho3; have HG3 := hid hg3; clear h3 hg3 ho3 ht3)
          | fail)
        go_ret2
        exact .mk HN.out _ rfl (HB2.out.trans (HG3.out.below hpB hpB2))
    · have HN : Hid (refU l = ([], t)) := hid (by rw [HU.out, if_pos ht])
      have ht1 : ((t : Int) != 1) = true := by simp; omega
      clear ht
      go_wp2_with (first
        | (go_at_call 8; refine (Calls.mono (HR.out _ _ _ _ _ HTS.out) ?_); rintro e w3 h3; obtain ⟨v3, rfl, hg3⟩ := RStrRes.some h3; have HG3 := hid hg3; clear h3 hg3)
        | fail)
      go_ret2
      exact .mk HN.out _ rfl (HB2.out.trans (HG3.out.below hpB hpB2))
set_option maxRecDepth 100000 in
theorem textUnquoteR_any (l : List UInt8) (w : World) (hm : l.length ≤ 1000000) : Calls Tryd.prog 5 #[.string ⟨l.toArray⟩] w (UnqR l w) := by
  rcases l with _ | ⟨c, r⟩
  · have HN : Hid (refU [] = ([], 0)) := hid rfl
    go_enter Tryd.func5, Tryd.ntmps5
    go_wp2_with fail
    go_ret2
    exact .mk HN.out _ rfl (Below.refl _ _)
  · by_cases hq : c.toNat ≠ 34 ∧ c.toNat ≠ 39
    · have HN : Hid (refU (c :: r) = ([], 2)) := hid (by show refUC c r = _; rw [refUC_eq, if_pos hq])
      have hb := head_byte c r (by rw [size_mk]; simp)
      have hsz := size_mk (c :: r)
      have bc := byte_bd c
      have q1 : ((c.toNat : Int) != 34) = true := by simp; omega
      have q2 : ((c.toNat : Int) != 39) = true := by simp; omega
      clear hq
      go_enter Tryd.func5, Tryd.ntmps5
      go_wp2_with fail
      go_ret2
      exact .mk HN.out _ rfl (Below.refl _ _)
    · have hle : (refT c.toNat (c :: r) r [] 1).2.2 ≤ r.length := refF_le _ _ _ _ _ _
      refine unqR_quoted (c :: r) c w (fun h => rfl) (by simp) hm (by simp; omega) (refT c.toNat (c :: r) r [] 1).1 (refT c.toNat (c :: r) r [] 1).2.1 (refT c.toNat (c :: r) r [] 1).2.2 (by simp; omega) (hid (by show refUC c r = _; rw [refUC_eq, if_neg hq])) (hid fun W B p g vb h => rstr_any W h (by simp) hm)
end Go.Proofs.YtgdnpnipahegaaaDoor
