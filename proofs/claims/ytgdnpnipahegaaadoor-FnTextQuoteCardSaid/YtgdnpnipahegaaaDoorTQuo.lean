/-
  Any bytes that the text form's writer quotes are read back by its reader. Plain functions.
-/
import Derived.Test.YtgdnpnipahegaaaDoorTStr
import Derived.Test.YtgdnpnipahegaaaDoorTChar
namespace Go.Proofs.YtgdnpnipahegaaaDoor

/-- a digit of base 16, small -/
def hxT (d : Nat) : UInt8 := UInt8.ofNat (if d < 10 then 48 + d else 87 + d)
theorem hxT_all : ∀ d : Fin 16, hexV (hxT d.val).toNat = d.val ∧ isHex (hxT d.val) = true := by decide +kernel
theorem hxT_at {d : Nat} (h : d < 16) : hexV (hxT d).toNat = d ∧ isHex (hxT d) = true := hxT_all ⟨d, h⟩
def escQ (c : Nat) : List UInt8 := if c = 34 ∨ c = 92 then [92, UInt8.ofNat c] else if c = 10 then [92, 110] else if c = 13 then [92, 114] else if c = 9 then [92, 116] else [92, 120, hxT (c / 16), hxT (c % 16)]
def stopQ (c : Nat) : Bool := decide (c < 32) || (c == 34 || (c == 92 || c == 127))
def uniQ (c : Nat) : List UInt8 := [92, 117, 48, 48, hxT (c / 16), hxT (c % 16)]
/-- what stands between the quotation marks -/
def quoF : Nat → List UInt8 → List UInt8
  | 0, _ => []
  | _ + 1, [] => []
  | f + 1, c :: l => match u8char (c :: l) with
    | none => escQ c.toNat ++ quoF f l
    | some (v, n) => if stopQ v then escQ v ++ quoF f ((c :: l).drop n) else if 128 ≤ v ∧ v ≤ 159 then uniQ v ++ quoF f ((c :: l).drop n)
      else (c :: l).take n ++ quoF f ((c :: l).drop n)
def quoT (l : List UInt8) : List UInt8 := quoF l.length l
theorem quoF_fuel : ∀ (f g : Nat) (l : List UInt8), l.length ≤ f → l.length ≤ g → quoF f l = quoF g l
  | 0, 0, _, _, _ => rfl
  | 0, g + 1, l, h, _ => by
    have : l = [] := List.eq_nil_of_length_eq_zero (by omega)
    subst this; rfl
  | f + 1, 0, l, _, h => by
    have : l = [] := List.eq_nil_of_length_eq_zero (by omega)
    subst this; rfl
  | f + 1, g + 1, [], _, _ => rfl
  | f + 1, g + 1, c :: l, hf, hg => by
    simp only [List.length_cons] at hf hg
    unfold quoF
    rcases hu : u8char (c :: l) with _ | ⟨v, n⟩
    · simp only
      rw [quoF_fuel f g l (by omega) (by omega)]
    · have hn := u8char_size hu
      simp only
      rw [quoF_fuel f g ((c :: l).drop n) (by simp; omega) (by simp; omega)]
theorem quoT_nil : quoT [] = [] := rfl
theorem quoT_none {c : UInt8} {l : List UInt8} (h : u8char (c :: l) = none) : quoT (c :: l) = escQ c.toNat ++ quoT l := by
  unfold quoT
  rw [List.length_cons, quoF, h]
theorem quoT_some {c : UInt8} {l : List UInt8} {v n : Nat} (h : u8char (c :: l) = some (v, n)) : quoT (c :: l) = if stopQ v then escQ v ++ quoT ((c :: l).drop n) else if 128 ≤ v ∧ v ≤ 159 then uniQ v ++ quoT ((c :: l).drop n)
      else (c :: l).take n ++ quoT ((c :: l).drop n) := by
  have hn := u8char_size h
  conv => lhs; unfold quoT
  rw [List.length_cons, quoF, h]
  simp only
  have e : quoF l.length ((c :: l).drop n) = quoT ((c :: l).drop n) := quoF_fuel _ _ _ (by simp; omega) (Nat.le_refl _)
  rw [e]
theorem quoT_len : ∀ (f : Nat) (l : List UInt8), (quoF f l).length ≤ 6 * l.length
  | 0, _ => Nat.zero_le _
  | f + 1, [] => Nat.zero_le _
  | f + 1, c :: l => by
    have he : ∀ v, (escQ v).length ≤ 4 := fun v => by unfold escQ; repeat' split
                                                      all_goals first | exact (by decide : 2 ≤ 4) | exact (by decide : 4 ≤ 4)
    unfold quoF
    rcases hu : u8char (c :: l) with _ | ⟨v, n⟩
    · have := quoT_len f l
      have := he c.toNat
      simp only [List.length_append, List.length_cons]; omega
    · have hn := u8char_size hu
      have := quoT_len f ((c :: l).drop n)
      have := he v
      have hq : (uniQ v).length = 6 := rfl
      simp only [List.length_drop, List.length_cons] at *
      split
      · simp only [List.length_append]; omega
      · split
        · simp only [List.length_append]; omega
        · simp only [List.length_append, List.length_take, List.length_cons]; omega
/-- what needs no escape stands for itself -/
theorem quoT_skip : ∀ (l : List UInt8), quoT l = l.take (needT l) ++ quoT (l.drop (needT l))
  | [] => rfl
  | c :: l => by
    unfold needT
    rw [runN_cons]
    cases hc : plainC c with
    | false => simp
    | true =>
      rw [if_pos rfl]
      unfold plainC at hc
      simp at hc
      have hu : u8char (c :: l) = some (c.toNat, 1) := by rw [u8char_cons, if_pos (by omega)]
      have hs : stopQ c.toNat = false := by unfold stopQ; simp; omega
      rw [quoT_some hu, hs, if_neg (by simp), if_neg (by omega), List.drop_succ_cons, List.drop_zero, List.take_succ_cons, List.take_zero, quoT_skip l]
      unfold needT
      simp

theorem strT_esc {q : Nat} (hq : q = 34 ∨ q = 39) {e : List UInt8} {l out b : List UInt8} (h : escT (92 :: e ++ l) = some (b, e.length + 1)) : strT q (92 :: e ++ l) out = strT q l (out ++ b) := by
  have hu : u8char (92 :: e ++ l) = some (92, 1) := by rw [List.cons_append, u8char_cons]; rfl
  rw [strT_some hu, if_neg (by omega), if_neg (by omega), if_pos rfl, h]
  simp
theorem hex_two {a b : Nat} (ha : a < 16) (hb : b < 16) (l : List UInt8) : hexT2 (hxT a :: hxT b :: l) = some ([UInt8.ofNat (a * 16 + b)], 4) := by
  obtain ⟨a1, a2⟩ := hxT_at ha
  obtain ⟨b1, b2⟩ := hxT_at hb
  have hr : runN isHex (hxT a :: hxT b :: l) = runN isHex l + 2 := by rw [runN_cons, a2, if_pos rfl, runN_cons, b2, if_pos rfl]
  unfold hexT2
  rw [hr, if_neg (by omega), show min 2 (runN isHex l + 2) = 2 by omega]
  have hx : hexN 0 ((hxT a :: hxT b :: l).take 2) = some (a * 16 + b) := by
    show hexN 0 [hxT a, hxT b] = _
    unfold hexN
    rw [a1, if_pos ha]
    unfold hexN
    rw [b1, if_pos hb]
    simp [hexN]
  rw [hx]
theorem escT_q {c : Nat} (hc : c < 256) (hs : stopQ c = true ∨ 128 ≤ c) (l : List UInt8) : escT (escQ c ++ l) = some ([UInt8.ofNat c], (escQ c).length) := by
  unfold escQ
  split
  · rename_i h
    rw [List.cons_append, List.cons_append, List.nil_append, escT_cons]
    rcases h with rfl | rfl <;> rfl
  · split
    · rename_i h; subst h; rfl
    · split
      · rename_i h; subst h; rfl
      · split
        · rename_i h; subst h; rfl
        · rw [List.cons_append, List.cons_append, escT_cons, if_neg (by decide), if_neg (by decide), if_pos (by decide)]
          rw [List.cons_append, List.cons_append, List.nil_append, hex_two (by omega) (Nat.mod_lt _ (by decide)), show c / 16 * 16 + c % 16 = c by omega]
          rfl
theorem escT_u {c : Nat} (hc : 128 ≤ c ∧ c ≤ 159) (l : List UInt8) : escT (uniQ c ++ l) = some (encU c, (uniQ c).length) := by
  obtain ⟨a1, a2⟩ := hxT_at (d := c / 16) (by omega)
  obtain ⟨b1, b2⟩ := hxT_at (d := c % 16) (by omega)
  unfold uniQ
  rw [List.cons_append, List.cons_append, escT_cons, if_neg (by decide), if_neg (by decide), if_neg (by decide), if_pos (by decide)]
  unfold uniT
  rw [if_neg (by simp)]
  have hx : hexN 0 (((92 :: 117 :: ([48, 48, hxT (c / 16), hxT (c % 16)] ++ l)).drop 2).take 4) = some c := by
    show hexN 0 [48, 48, hxT (c / 16), hxT (c % 16)] = _
    have h0 : hexV (48 : UInt8).toNat = 0 := by decide
    unfold hexN
    rw [h0, if_pos (by decide)]
    unfold hexN
    rw [h0, if_pos (by decide)]
    unfold hexN
    rw [a1, if_pos (by omega)]
    unfold hexN
    rw [b1, if_pos (by omega)]
    unfold hexN
    congr 1
    omega
  rw [hx]
  simp only
  rw [if_neg (by omega), if_pos (by unfold surrT; simp; omega)]
  rfl
theorem strT_quo {q : Nat} (hq : q = 34) : ∀ (f : Nat) (l r out : List UInt8), l.length ≤ f → strT q (quoT l ++ r) out = strT q r (out ++ l)
  | f, [], r, out, _ => by rw [quoT_nil]; simp
  | 0, c :: l, r, out, h => by simp at h
  | f + 1, c :: l, r, out, h => by
    subst hq
    simp only [List.length_cons] at h
    have hex : ∀ (v : Nat) (l2 : List UInt8), v < 256 → stopQ v = true ∨ 128 ≤ v → strT 34 (escQ v ++ l2) out = strT 34 l2 (out ++ [UInt8.ofNat v]) := by
      intro v l2 h1 h2
      have he := escT_q h1 h2 l2
      obtain ⟨e, hq⟩ : ∃ e, escQ v = 92 :: e := by unfold escQ; repeat' split
                                                   all_goals exact ⟨_, rfl⟩
      rw [hq] at he ⊢
      exact strT_esc (.inl rfl) he
    rcases hu : u8char (c :: l) with _ | ⟨v, n⟩
    · rw [quoT_none hu, List.append_assoc, hex _ _ c.toNat_lt (.inr (by
        rcases Nat.lt_or_ge c.toNat 128 with h1 | h1
        · rw [u8char_cons, if_pos h1] at hu; cases hu
        · exact h1)), strT_quo rfl f l r _ (by omega)]
      simp
    · have hn := u8char_size hu
      have ih := strT_quo (q := 34) rfl f ((c :: l).drop n) r
      rw [quoT_some hu]
      by_cases hs : stopQ v = true
      · rw [if_pos hs, List.append_assoc, hex v _ (by unfold stopQ at hs; simp at hs; omega) (.inl hs), ih _ (by simp; omega)]
        have hv : v < 128 := by unfold stopQ at hs; simp at hs; omega
        have hc : c.toNat < 128 := by
          rcases Nat.lt_or_ge c.toNat 128 with h1 | h1
          · exact h1
          · exfalso
            rw [u8char_cons, if_neg (by omega)] at hu
            rcases hh : u8head c.toNat with _ | ⟨k, least, first⟩
            · rw [hh] at hu; cases hu
            · rw [hh] at hu
              simp only at hu
              have hk := u8head_le hh
              rcases ht : u8take k first l with _ | v'
              · rw [ht] at hu; cases hu
              · rw [ht] at hu
                simp only at hu
                split at hu
                · rename_i ho
                  unfold u8ok at ho
                  simp at ho
                  cases hu
                  omega
                · cases hu
        rw [u8char_cons, if_pos hc] at hu
        cases hu
        simp
      · rw [if_neg hs]
        by_cases h2 : 128 ≤ v ∧ v ≤ 159
        · rw [if_pos h2, List.append_assoc]
          have he := escT_u h2 (quoT ((c :: l).drop n) ++ r)
          have e1 : uniQ v ++ (quoT ((c :: l).drop n) ++ r) = 92 :: (uniQ v).tail ++ (quoT ((c :: l).drop n) ++ r) := rfl
          rw [e1] at he ⊢
          rw [strT_esc (.inl rfl) he, ih _ (by simp; omega), encU_back hu, List.append_assoc, List.take_append_drop]
        · rw [if_neg h2, List.append_assoc]
          have hu2 := u8char_take (r := quoT ((c :: l).drop n) ++ r) hu
          unfold stopQ at hs
          simp at hs
          rw [strT_some hu2, if_neg (by omega), if_neg (by omega), if_neg (by omega)]
          have hl : ((c :: l).take n).length = n := by rw [List.length_take]; omega
          have e1 : ((c :: l).take n ++ (quoT ((c :: l).drop n) ++ r)).drop n = quoT ((c :: l).drop n) ++ r := List.drop_left' hl
          have e2 : ((c :: l).take n ++ (quoT ((c :: l).drop n) ++ r)).take n = (c :: l).take n := List.take_left' hl
          rw [e1, e2, ih _ (by simp; omega), List.append_assoc, List.take_append_drop]
/-- quoted, and read back -/
theorem quote_back (s : List UInt8) : strT 34 (quoT s ++ [34]) [] = some (s, 0) := by
  rw [strT_quo rfl s.length s [34] [] (Nat.le_refl _), strT_some (c := 34) (n := 1) rfl]
  simp
end Go.Proofs.YtgdnpnipahegaaaDoor
