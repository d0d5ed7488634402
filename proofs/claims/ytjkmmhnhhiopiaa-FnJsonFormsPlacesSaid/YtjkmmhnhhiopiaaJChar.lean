/-
  The reference's writer of JSON, walked: a character of a string.
-/
import Derived.Test.YtjkmmhnhhiopiaaJRune
namespace Go.Proofs.Ytjkmmhnhhiopiaa
open Go.ChangeShapes Go.WideShapes Go.ChangeAt Go.RowKit

def Viewed (B p g : Nat) (ps : List UInt8) (vb vp vl : Value) (s : JS) (bs : List UInt8) (w : World) (e : Ending) (w' : World) : Prop :=
  ∃ v' g', e = .returned v' ∧ View w' g' v' bs ∧ JW B p g ps vb vp vl s w' ∧ w.grownBy w' (some p)

theorem View.grown {w w' : World} {g p : Nat} {v : Value} {bs : List UInt8} (h : View w g v bs) (hg : w.grownBy w' (some p)) (hp : g ≠ p) : View w' g v bs := by
  by_cases hne : bs = []
  · obtain ⟨ao, cap, hv, h1, h2, hn0, off, h3, h4⟩ := h
    exact ⟨ao, cap, hv, h1, h2, hn0, off, h3, fun j hj => by rw [hne] at hj; simp at hj⟩
  · exact h.kept (hg.block g (h.lt hne) (fun e => hp (by injection e)))

theorem shortE_lt (c : Nat) : shortE c < 256 := by
  unfold shortE; repeat' split
  all_goals omega

theorem i64_and1023 {x : Int} (h0 : 0 ≤ x) (h1 : x < 2147483648) : bits .and .i64 x 1023 = x % 1024 := bits_mask .i64 63 (by decide) wraps_i64' 10 (by decide) x h0 (by omega)

section
variable {B p g : Nat} {ps : List UInt8} {vb vp vl : Value} {s : JS} {w : World}
theorem char_short (c : Nat) (u : List UInt8) (h1 : shortE c ≠ 0) (h2 : pickV ps s.k 4 < 2) (h3 : mustE c = true ∨ pickV ps s.k 4 = 1) : charJ ps s.k c u = ([92, UInt8.ofNat (shortE c)], pickK ps s.k) := by
  unfold charJ; simp only; rw [if_pos ⟨h1, h2, h3⟩]
theorem char_plain (c : Nat) (u : List UInt8) (h : ¬ (shortE c ≠ 0 ∧ pickV ps s.k 4 < 2 ∧ (mustE c = true ∨ pickV ps s.k 4 = 1))) (h1 : mustE c = false) (h2 : pickV ps s.k 4 < 3) : charJ ps s.k c u = (u, pickK ps s.k) := by
  unfold charJ; simp only; rw [if_neg h, if_pos ⟨h1, h2⟩]
theorem char_big (c : Nat) (u : List UInt8) (h : ¬ (shortE c ≠ 0 ∧ pickV ps s.k 4 < 2 ∧ (mustE c = true ∨ pickV ps s.k 4 = 1))) (h1 : ¬ (mustE c = false ∧ pickV ps s.k 4 < 3)) (h2 : 65536 ≤ c) :
    charJ ps s.k c u = (escapedJ ps (pickK ps s.k) (55296 + (c - 65536) / 1024) ++ escapedJ ps (escapedK ps (pickK ps s.k)) (56320 + (c - 65536) % 1024), escapedK ps (escapedK ps (pickK ps s.k))) := by
  unfold charJ; simp only; rw [if_neg h, if_neg h1, if_pos h2]
theorem char_small (c : Nat) (u : List UInt8) (h : ¬ (shortE c ≠ 0 ∧ pickV ps s.k 4 < 2 ∧ (mustE c = true ∨ pickV ps s.k 4 = 1))) (h1 : ¬ (mustE c = false ∧ pickV ps s.k 4 < 3)) (h2 : ¬ 65536 ≤ c) :
    charJ ps s.k c u = (escapedJ ps (pickK ps s.k) c, escapedK ps (pickK ps s.k)) := by
  unfold charJ; simp only; rw [if_neg h, if_neg h1, if_neg h2]
end

set_option maxRecDepth 100000 in
set_option maxHeartbeats 800000 in
theorem character_any (B p g : Nat) (ps : List UInt8) (vb vp vl : Value) (s : JS) (w : World) (h : JW B p g ps vb vp vl s w) (hk : s.k ≤ 80000000) (hps : ps.length ≤ 2147483647)
    (u : List UInt8) (c : Nat) (v : Value) (g2 : Nat) (hv : View w g2 v u) (hg2 : g2 ≠ p) (h1 : 1 ≤ u.length) (h4 : u.length ≤ 4) (hc : runeV u = c) (hcb : c < 2097152) :
    Calls Try.prog 25 #[.pointer (some ⟨p, 0, none⟩), v] w (Viewed B p g ps vb vp vl { s with k := (charJ ps s.k c u).2 } (charJ ps s.k c u).1 w) := by
  obtain ⟨ao, cap, rfl⟩ := hv.slice
  have HV := hid hv
  have HH := hid h
  have HR : Hid (Calls Try.prog 29 #[.slice ao u.length cap] w (Drawn (.int .i64 c) w)) := hid (hc ▸ runeOf_any _ u g2 w hv h1 h4)
  have HS : Hid (∀ w, Calls Try.prog 30 #[.int .i64 c] w fun e w' => e = .returned (.int .u8 (shortE c)) ∧ w = w') := hid fun w => shortEscape_any c w (by omega)
  have HP : Hid (∀ w, JW B p g ps vb vp vl s w → Calls Try.prog 20 #[.pointer (some ⟨p, 0, none⟩), .int .i64 4] w (Picked B p g ps vb vp vl s 4 w)) := hid fun w h => pick_any B p g ps vb vp vl s 4 w h (by decide) (by decide) (by omega) hps
  unfold Drawn at HR
  unfold Picked at HP
  have hpl := pickK_le ps s.k
  have HE : Hid (∀ (w : World), JW B p g ps vb vp vl { s with k := pickK ps s.k } w → Calls Try.prog 31 #[.pointer (some ⟨p, 0, none⟩), .int .i64 c] w (Made B p g ps vb vp vl { s with k := escapedK ps (pickK ps s.k) } (escapedJ ps (pickK ps s.k) c) w)) :=
    hid fun w h => escaped_any B p g ps vb vp vl _ w h (by simp only; omega) hps c (by omega)
  unfold Made at HE
  have hshort := char_short (ps := ps) (s := s) c u
  have hplain := char_plain (ps := ps) (s := s) c u
  have hsmall := char_small (ps := ps) (s := s) c u
  have hbig := char_big (ps := ps) (s := s) c u
  have hsl := shortE_lt c
  have hmd : mustE c = (decide (c < 32) || c == 34 || c == 92) := rfl
  have hv4 := pickV_lt ps s.k 4 (by decide)
  generalize hch : charJ ps s.k c u = out at *
  generalize pickV ps s.k 4 = ch at *
  generalize shortE c = sh at *
  generalize mustE c = must at *
  clear h hv hc hch
  have hmust : (must = true ∧ c < 65536 ∧ (decide ((c : Int) < 32) = true ∨ (decide ((c : Int) < 32) = false ∧ ((c : Int) == 34) = true) ∨ (decide ((c : Int) < 32) = false ∧ ((c : Int) == 34) = false ∧ ((c : Int) == 92) = true))) ∨
      (must = false ∧ decide ((c : Int) < 32) = false ∧ ((c : Int) == 34) = false ∧ ((c : Int) == 92) = false) := by
    rw [hmd]
    by_cases a : c < 32
    · exact .inl ⟨by simp [a], by omega, .inl (by simp; omega)⟩
    · by_cases b : c = 34
      · exact .inl ⟨by simp [b], by omega, .inr (.inl ⟨by simp; omega, by simp; omega⟩)⟩
      · by_cases d : c = 92
        · exact .inl ⟨by simp [d], by omega, .inr (.inr ⟨by simp; omega, by simp; omega, by simp; omega⟩)⟩
        · exact .inr ⟨by simp [a, b, d], by simp; omega, by simp; omega, by simp; omega⟩
  clear hmd
  have hch4 : ch = 0 ∨ ch = 1 ∨ ch = 2 ∨ ch = 3 := by omega
  clear hv4
  rcases hmust with ⟨rfl, hc6, hm⟩ | ⟨rfl, m1, m2, m3⟩
  · have HSM : Hid (∀ h, ¬ 65536 ≤ c → out = _) := hid fun h => hsmall h (by simp)
    have hc7 : decide ((65536 : Int) ≤ c) = false := decide_eq_false (by omega)
    have HSH := hid hshort
    clear hplain hbig hsmall hshort
    by_cases hsh0 : sh = 0
    · have e0 : ((sh : Int) != 0) = false := by simp [hsh0]
      have HO := hid (HSM.out (fun h => h.1 hsh0) (by omega))
      clear HSM HSH hsh0 hc6 hcb
      rcases hm with m1 | ⟨m1, m2⟩ | ⟨m1, m2, m3⟩ <;> rcases hch4 with rfl | rfl | rfl | rfl
      all_goals
        go_enter Try.func25, Try.ntmps25
        go_wp2_with (first
          | (go_at_call 29; refine (Calls.mono HR.out ?_); rintro e w1 ⟨rfl, hb1⟩)
          | (go_at_call 30; refine (Calls.mono (HS.out _) ?_); rintro e w' ⟨rfl, rfl⟩)
          | (go_at_call 20; refine (Calls.mono (HP.out _ (HH.out.below hb1)) ?_); rintro e w2 ⟨rfl, hj2, hg2'⟩)
          | (go_at_call 31; refine (Calls.mono (HE.out _ hj2) ?_); rintro e w3 ⟨v3, rfl, ho3, hj3, hg3⟩)
          | fail)
        go_ret
        rw [HO.out]
        obtain ⟨g', hv', _⟩ := ho3.view
        exact ⟨_, g', rfl, hv', hj3, grownBy_trans (grownBy_trans (grownBy_of_below hb1 _) hg2') hg3⟩
    · have e0 : ((sh : Int) != 0) = true := by simp; omega
      have HO1 : Hid (ch < 2 → out = ([92, UInt8.ofNat sh], pickK ps s.k)) := hid fun h => HSH.out hsh0 h (.inl rfl)
      have HO2 : Hid (¬ ch < 2 → out = (escapedJ ps (pickK ps s.k) c, escapedK ps (pickK ps s.k))) := hid fun h => HSM.out (fun h' => h h'.2.1) (by omega)
      clear HSM HSH hsh0 hc6 hcb
      by_cases hlt : ch < 2
      · have HO := hid (HO1.out hlt)
        have hch2 : ch = 0 ∨ ch = 1 := by omega
        clear HO1 HO2 hch4 hlt
        rcases hm with m1 | ⟨m1, m2⟩ | ⟨m1, m2, m3⟩ <;> rcases hch2 with rfl | rfl
        all_goals
          go_enter Try.func25, Try.ntmps25
          go_wp2_with (first
            | (go_at_call 29; refine (Calls.mono HR.out ?_); rintro e w1 ⟨rfl, hb1⟩)
            | (go_at_call 30; refine (Calls.mono (HS.out _) ?_); rintro e w' ⟨rfl, rfl⟩)
            | (go_at_call 20; refine (Calls.mono (HP.out _ (HH.out.below hb1)) ?_); rintro e w2 ⟨rfl, hj2, hg2'⟩)
            | (go_at_call 31; refine (Calls.mono (HE.out _ hj2) ?_); rintro e w3 ⟨v3, rfl, ho3, hj3, hg3⟩)
            | fail)
          go_ret
          rw [HO.out]
          exact ⟨_, w2.heap.size, rfl, view_new w2 [92, UInt8.ofNat sh] _ _ (by simp [byteCells]; omega) (by simp [maxLen]), hj2.alloc _, grownBy_trans (grownBy_trans (grownBy_of_below hb1 _) hg2') (World.grownBy_alloc _ _ _)⟩
      · have HO := hid (HO2.out hlt)
        have hch2 : ch = 2 ∨ ch = 3 := by omega
        clear HO1 HO2 hch4 hlt
        rcases hm with m1 | ⟨m1, m2⟩ | ⟨m1, m2, m3⟩ <;> rcases hch2 with rfl | rfl
        all_goals
          go_enter Try.func25, Try.ntmps25
          go_wp2_with (first
            | (go_at_call 29; refine (Calls.mono HR.out ?_); rintro e w1 ⟨rfl, hb1⟩)
            | (go_at_call 30; refine (Calls.mono (HS.out _) ?_); rintro e w' ⟨rfl, rfl⟩)
            | (go_at_call 20; refine (Calls.mono (HP.out _ (HH.out.below hb1)) ?_); rintro e w2 ⟨rfl, hj2, hg2'⟩)
            | (go_at_call 31; refine (Calls.mono (HE.out _ hj2) ?_); rintro e w3 ⟨v3, rfl, ho3, hj3, hg3⟩)
            | fail)
          go_ret
          rw [HO.out]
          obtain ⟨g', hv', _⟩ := ho3.view
          exact ⟨_, g', rfl, hv', hj3, grownBy_trans (grownBy_trans (grownBy_of_below hb1 _) hg2') hg3⟩
  · by_cases hsh : sh ≠ 0 ∧ ch = 1
    · have e0 : ((sh : Int) != 0) = true := by simp; omega
      have HO := hid (hshort hsh.1 (by omega) (.inr hsh.2))
      obtain ⟨_, rfl⟩ := hsh
      clear hshort hplain hbig hsmall hcb hch4
      go_enter Try.func25, Try.ntmps25
      go_wp2_with (first
        | (go_at_call 29; refine (Calls.mono HR.out ?_); rintro e w1 ⟨rfl, hb1⟩)
        | (go_at_call 30; refine (Calls.mono (HS.out _) ?_); rintro e w' ⟨rfl, rfl⟩)
        | (go_at_call 20; refine (Calls.mono (HP.out _ (HH.out.below hb1)) ?_); rintro e w2 ⟨rfl, hj2, hg2'⟩)
        | (go_at_call 31; refine (Calls.mono (HE.out _ hj2) ?_); rintro e w3 ⟨v3, rfl, ho3, hj3, hg3⟩)
        | fail)
      go_ret
      rw [HO.out]
      exact ⟨_, w2.heap.size, rfl, view_new w2 [92, UInt8.ofNat sh] _ _ (by simp [byteCells]; omega) (by simp [maxLen]), hj2.alloc _, grownBy_trans (grownBy_trans (grownBy_of_below hb1 _) hg2') (World.grownBy_alloc _ _ _)⟩
    · have hno : ¬ (sh ≠ 0 ∧ ch < 2 ∧ (false = true ∨ ch = 1)) := fun h => hsh ⟨h.1, h.2.2.resolve_left (by decide)⟩
      have he0 : ((sh : Int) != 0) = false ∨ (((sh : Int) != 0) = true ∧ ch ≠ 1) := by
        by_cases h0 : sh = 0
        · exact .inl (by simp [h0])
        · exact .inr ⟨by simp; omega, fun h => hsh ⟨h0, h⟩⟩
      by_cases h3 : ch < 3
      · have HO := hid (hplain hno rfl h3)
        clear hshort hplain hbig hsmall hcb hsh hno
        rcases he0 with e0 | ⟨e0, hne⟩
        · have hch2 : ch = 0 ∨ ch = 1 ∨ ch = 2 := by omega
          clear hch4 h3
          rcases hch2 with rfl | rfl | rfl
          all_goals
            go_enter Try.func25, Try.ntmps25
            go_wp2_with (first
              | (go_at_call 29; refine (Calls.mono HR.out ?_); rintro e w1 ⟨rfl, hb1⟩)
              | (go_at_call 30; refine (Calls.mono (HS.out _) ?_); rintro e w' ⟨rfl, rfl⟩)
              | (go_at_call 20; refine (Calls.mono (HP.out _ (HH.out.below hb1)) ?_); rintro e w2 ⟨rfl, hj2, hg2'⟩)
              | (go_at_call 31; refine (Calls.mono (HE.out _ hj2) ?_); rintro e w3 ⟨v3, rfl, ho3, hj3, hg3⟩)
              | fail)
            go_ret
            rw [HO.out]
            exact ⟨_, g2, rfl, (HV.out.below hb1).grown hg2' hg2, hj2, grownBy_trans (grownBy_of_below hb1 _) hg2'⟩
        · have hch2 : ch = 0 ∨ ch = 2 := by omega
          clear hch4 h3 hne
          rcases hch2 with rfl | rfl
          all_goals
            go_enter Try.func25, Try.ntmps25
            go_wp2_with (first
              | (go_at_call 29; refine (Calls.mono HR.out ?_); rintro e w1 ⟨rfl, hb1⟩)
              | (go_at_call 30; refine (Calls.mono (HS.out _) ?_); rintro e w' ⟨rfl, rfl⟩)
              | (go_at_call 20; refine (Calls.mono (HP.out _ (HH.out.below hb1)) ?_); rintro e w2 ⟨rfl, hj2, hg2'⟩)
              | (go_at_call 31; refine (Calls.mono (HE.out _ hj2) ?_); rintro e w3 ⟨v3, rfl, ho3, hj3, hg3⟩)
              | fail)
            go_ret
            rw [HO.out]
            exact ⟨_, g2, rfl, (HV.out.below hb1).grown hg2' hg2, hj2, grownBy_trans (grownBy_of_below hb1 _) hg2'⟩
      · obtain rfl : ch = 3 := by omega
        replace he0 : ((sh : Int) != 0) = false ∨ ((sh : Int) != 0) = true := he0.imp id (·.1)
        by_cases hc6 : 65536 ≤ c
        · have HO := hid (hbig hno (by omega) hc6)
          obtain ⟨d, hcd⟩ : ∃ d, d = c - 65536 := ⟨c - 65536, rfl⟩
          have hd : (d : Int) < 2031616 := by omega
          have hd0 : (0 : Int) ≤ (d : Int) := by omega
          have hsub : (c : Int) - 65536 = (d : Int) := by omega
          have hge : decide ((65536 : Int) ≤ c) = true := decide_eq_true (by omega)
          rw [← hcd] at HO
          have HA : Hid (∀ (z : Int) (w : World), z = ((55296 + d / 1024 : Nat) : Int) → JW B p g ps vb vp vl { s with k := pickK ps s.k } w → Calls Try.prog 31 #[.pointer (some ⟨p, 0, none⟩), .int .i64 z] w (Made B p g ps vb vp vl { s with k := escapedK ps (pickK ps s.k) } (escapedJ ps (pickK ps s.k) (55296 + d / 1024)) w)) :=
            hid fun z w hz h => hz ▸ escaped_any B p g ps vb vp vl _ w h (by simp only; omega) hps _ (by omega)
          have hke := escapedK_le ps (pickK ps s.k)
          have HB : Hid (∀ (z : Int) (w : World), z = ((56320 + d % 1024 : Nat) : Int) → JW B p g ps vb vp vl { s with k := escapedK ps (pickK ps s.k) } w → Calls Try.prog 31 #[.pointer (some ⟨p, 0, none⟩), .int .i64 z] w (Made B p g ps vb vp vl { s with k := escapedK ps (escapedK ps (pickK ps s.k)) } (escapedJ ps (escapedK ps (pickK ps s.k)) (56320 + d % 1024)) w)) :=
            hid fun z w hz h => hz ▸ escaped_any B p g ps vb vp vl _ w h (by simp only; omega) hps _ (by omega)
          unfold Made at HA HB
          have ha := i64_and1023 (x := d) (by omega) (by omega)
          clear hshort hplain hbig hsmall hcb hsh hno HE hc6 hch4 h3 hcd
          rcases he0 with e0 | e0
          all_goals
            go_enter Try.func25, Try.ntmps25
            go_wp2_with (first
              | (go_at_call 29; refine (Calls.mono HR.out ?_); rintro e w1 ⟨rfl, hb1⟩)
              | (go_at_call 30; refine (Calls.mono (HS.out _) ?_); rintro e w' ⟨rfl, rfl⟩)
              | (go_at_call 20; refine (Calls.mono (HP.out _ (HH.out.below hb1)) ?_); rintro e w2 ⟨rfl, hj2, hg2'⟩)
              | (go_at_call 31; refine (Calls.mono (HA.out _ _ (by omega) hj2) ?_); rintro e w3 ⟨v3, rfl, ho3, hj3, hg3⟩; obtain ⟨ao3, cc3, rfl⟩ := ho3.slice)
              | (go_at_call 31; refine (Calls.mono (HB.out _ _ (by omega) hj3) ?_); rintro e w4 ⟨v4, rfl, ho4, hj4, hg4⟩; obtain ⟨g4, hv4, _⟩ := ho4.view; have ho3' := World.ownsRow.kept ho3 hg4 (.inr (fun e => by have := (World.ownsRow.lt ho3 _ e).1; have := hj2.lt; omega)); have hsz4 : w2.heap.size ≤ w4.heap.size := Nat.le_trans hg3.size hg4.size)
              | (refine wpList_append_view _ rfl _ _ _ rfl w2.heap.size 5 Try.underlying25 Try.info5 (.slice ao3 6 cc3) (escapedJ ps (pickK ps s.k) (55296 + d / 1024)) rfl ho3' (Below.refl _ _) hsz4 g4 v4 (escapedJ ps (escapedK ps (pickK ps s.k)) (56320 + d % 1024)) rfl hv4 (by rw [escapedJ_len, escapedJ_len]; omega) ?_; intro v5 w5 ho5 hb5 hg5)
              | fail)
            go_ret
            rw [HO.out]
            obtain ⟨r1, r2, r3, r4⟩ := hj2.rows
            obtain ⟨g5, hv5, _⟩ := OwnB.view ho5
            have hvv : ∀ k, (Value.slice ao3 6 cc3).ownBlock = some k → w2.heap.size ≤ k := fun k hk => (World.ownsRow.lt ho3' k hk).1
            exact ⟨_, g5, rfl, hv5, hj4.own hg5 hvv r1 r2 r3 r4, grownBy_trans (grownBy_trans (grownBy_of_below hb1 _) hg2') (grownBy_own (grownBy_trans hg3 hg4) hg5 hvv)⟩
        · have HO := hid (hsmall hno (by omega) hc6)
          have hc7 : decide ((65536 : Int) ≤ c) = false := decide_eq_false (by omega)
          clear hshort hplain hbig hsmall hcb hsh hno hc6 hch4 h3
          rcases he0 with e0 | e0
          all_goals
            go_enter Try.func25, Try.ntmps25
            go_wp2_with (first
              | (go_at_call 29; refine (Calls.mono HR.out ?_); rintro e w1 ⟨rfl, hb1⟩)
              | (go_at_call 30; refine (Calls.mono (HS.out _) ?_); rintro e w' ⟨rfl, rfl⟩)
              | (go_at_call 20; refine (Calls.mono (HP.out _ (HH.out.below hb1)) ?_); rintro e w2 ⟨rfl, hj2, hg2'⟩)
              | (go_at_call 31; refine (Calls.mono (HE.out _ hj2) ?_); rintro e w3 ⟨v3, rfl, ho3, hj3, hg3⟩)
              | fail)
            go_ret
            rw [HO.out]
            obtain ⟨g', hv', _⟩ := ho3.view
            exact ⟨_, g', rfl, hv', hj3, grownBy_trans (grownBy_trans (grownBy_of_below hb1 _) hg2') hg3⟩
end Go.Proofs.Ytjkmmhnhhiopiaa
