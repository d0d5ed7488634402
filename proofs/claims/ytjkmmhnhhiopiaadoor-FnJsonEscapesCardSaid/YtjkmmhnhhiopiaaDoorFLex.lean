/-
  What the reference's writer of JSON writes for a string, a number or a word is read by the package's reader as that. Plain functions.
-/
import Derived.Test.YtjkmmhnhhiopiaaDoorDModel
import Derived.Test.YtjkmmhnhhiopiaaDoorJModel
namespace Go.Proofs.YtjkmmhnhhiopiaaDoor

/-- nothing that goes on with a word or number -/
def Delim (r : List UInt8) : Prop := ∀ c l, r = c :: l → notDel c = false
theorem Delim.nil : Delim [] := fun _ _ h => by cases h
theorem Delim.cons {c : UInt8} {l : List UInt8} (h : notDel c = false) : Delim (c :: l) := fun c' l' e => by injection e with e1 _; rw [← e1]; exact h

/-! ### a character written as an escape -/
theorem u8take_take : ∀ (k acc v : Nat) (l r : List UInt8), u8take k acc l = some v → u8take k acc (l.take k ++ r) = some v
  | 0, _, _, _, _, h => h
  | k + 1, acc, v, [], _, h => by simp [u8take] at h
  | k + 1, acc, v, c :: l, r, h => by
    unfold u8take at h
    simp only [List.take_succ_cons, List.cons_append]
    unfold u8take
    split at h
    · rename_i hc; rw [if_pos hc]; exact u8take_take k _ v l r h
    · cases h
theorem u8char_take {l r : List UInt8} {c n : Nat} (h : u8char l = some (c, n)) : u8char (l.take n ++ r) = some (c, n) := by
  have hs := u8char_size h
  cases l with
  | nil => cases h
  | cons b l =>
    obtain ⟨n, rfl⟩ : ∃ m, n = m + 1 := ⟨n - 1, by omega⟩
    simp only [List.take_succ_cons, List.cons_append]
    rw [u8char_cons] at h ⊢
    by_cases h1 : b.toNat < 128
    · rw [if_pos h1] at h ⊢; exact h
    · rw [if_neg h1] at h ⊢
      rcases hh : u8head b.toNat with _ | ⟨k, least, first⟩
      · rw [hh] at h; cases h
      · rw [hh] at h
        simp only at h ⊢
        rcases ht : u8take k first l with _ | v'
        · rw [ht] at h; cases h
        · rw [ht] at h
          simp only at h
          split at h
          · rename_i hok
            simp only [Option.some.injEq, Prod.mk.injEq] at h
            obtain ⟨rfl, hk⟩ := h
            obtain rfl : k = n := by omega
            rw [u8take_take _ _ _ _ r ht]
            simp only
            rw [if_pos hok]
          · cases h
theorem cont_eq {d : UInt8} {x : Nat} (h : contB d = true) (hx : x = 128 + d.toNat % 64) : UInt8.ofNat x = d := by
  unfold contB at h
  simp at h
  have := d.toNat_lt
  have : x = d.toNat := by omega
  rw [this]; simp
theorem head_eq {d : UInt8} {x : Nat} (hx : x = d.toNat) : UInt8.ofNat x = d := by rw [hx]; simp
theorem encU_back {l : List UInt8} {c n : Nat} (h : u8char l = some (c, n)) : encU c = l.take n := by
  cases l with
  | nil => cases h
  | cons b l =>
    rw [u8char_cons] at h
    by_cases h1 : b.toNat < 128
    · rw [if_pos h1] at h
      cases h
      unfold encU; rw [if_pos h1, head_eq rfl]; rfl
    · rw [if_neg h1] at h
      rcases hh : u8head b.toNat with _ | ⟨k, least, first⟩
      · rw [hh] at h; cases h
      · rw [hh] at h
        simp only at h
        rcases ht : u8take k first l with _ | v'
        · rw [ht] at h; cases h
        · rw [ht] at h
          simp only at h
          split at h
          · rename_i hok
            simp only [Option.some.injEq, Prod.mk.injEq] at h
            obtain ⟨rfl, rfl⟩ := h
            have hb := b.toNat_lt
            unfold u8ok at hok
            simp at hok
            unfold u8head at hh
            by_cases g1 : 194 ≤ b.toNat ∧ b.toNat < 224
            · rw [if_pos g1] at hh
              simp only [Option.some.injEq, Prod.mk.injEq] at hh
              obtain ⟨rfl, rfl, rfl⟩ := hh
              match l, ht with
              | d :: l, ht =>
                simp only [u8take] at ht
                split at ht
                · rename_i hd
                  simp only [Option.some.injEq] at ht
                  have hd' := Nat.mod_lt d.toNat (show 64 > 0 by decide)
                  unfold encU
                  rw [if_neg (by omega), if_pos (by omega), head_eq (d := b) (by omega), cont_eq hd (by omega)]; rfl
                · cases ht
            · rw [if_neg g1] at hh
              by_cases g2 : 224 ≤ b.toNat ∧ b.toNat < 240
              · rw [if_pos g2] at hh
                simp only [Option.some.injEq, Prod.mk.injEq] at hh
                obtain ⟨rfl, rfl, rfl⟩ := hh
                match l, ht with
                | d :: e :: l, ht =>
                  simp only [u8take] at ht
                  split at ht
                  · rename_i hd
                    split at ht
                    · rename_i he
                      simp only [Option.some.injEq] at ht
                      have hd' := Nat.mod_lt d.toNat (show 64 > 0 by decide)
                      have he' := Nat.mod_lt e.toNat (show 64 > 0 by decide)
                      unfold encU
                      rw [if_neg (by omega), if_neg (by omega), if_pos (by omega), head_eq (d := b) (by omega), cont_eq hd (by omega), cont_eq he (by omega)]; rfl
                    · cases ht
                  · cases ht
                | [d], ht =>
                  simp only [u8take] at ht
                  split at ht <;> cases ht
              · rw [if_neg g2] at hh
                by_cases g3 : 240 ≤ b.toNat ∧ b.toNat < 245
                · rw [if_pos g3] at hh
                  simp only [Option.some.injEq, Prod.mk.injEq] at hh
                  obtain ⟨rfl, rfl, rfl⟩ := hh
                  match l, ht with
                  | d :: e :: f :: l, ht =>
                    simp only [u8take] at ht
                    split at ht
                    · rename_i hd
                      split at ht
                      · rename_i he
                        split at ht
                        · rename_i hf
                          simp only [Option.some.injEq] at ht
                          have hd' := Nat.mod_lt d.toNat (show 64 > 0 by decide)
                          have he' := Nat.mod_lt e.toNat (show 64 > 0 by decide)
                          have hf' := Nat.mod_lt f.toNat (show 64 > 0 by decide)
                          unfold encU
                          rw [if_neg (by omega), if_neg (by omega), if_neg (by omega), head_eq (d := b) (by omega), cont_eq hd (by omega), cont_eq he (by omega), cont_eq hf (by omega)]; rfl
                        · cases ht
                      · cases ht
                    · cases ht
                  | [d], ht =>
                    simp only [u8take] at ht
                    split at ht <;> cases ht
                  | [d, e], ht =>
                    simp only [u8take] at ht
                    repeat' split at ht
                    all_goals cases ht
                · rw [if_neg g3] at hh; cases hh
          · cases h
theorem u8char_ok {l : List UInt8} {c n : Nat} (h : u8char l = some (c, n)) : c < 55296 ∨ 57344 ≤ c ∧ c ≤ 1114111 := by
  cases l with
  | nil => cases h
  | cons b l =>
    rw [u8char_cons] at h
    by_cases h1 : b.toNat < 128
    · rw [if_pos h1] at h; cases h; omega
    · rw [if_neg h1] at h
      rcases hh : u8head b.toNat with _ | ⟨k, least, first⟩
      · rw [hh] at h; cases h
      · rw [hh] at h
        simp only at h
        rcases ht : u8take k first l with _ | v'
        · rw [ht] at h; cases h
        · rw [ht] at h
          simp only at h
          split at h
          · rename_i hok
            simp only [Option.some.injEq, Prod.mk.injEq] at h
            obtain ⟨rfl, _⟩ := h
            unfold u8ok at hok
            simp at hok
            omega
          · cases h
theorem hexT_all : ((List.range 16).all fun n => hexV (hexT true n).toNat == n && hexV (hexT false n).toNat == n) = true := by decide
theorem hexT_back (up : Bool) (n : Nat) (h : n < 16) : hexV (hexT up n).toNat = n := by
  have := List.all_eq_true.1 hexT_all n (List.mem_range.2 h)
  simp at this
  cases up
  · exact this.2
  · exact this.1
/-- four digits, small or large -/
theorem hex_four (u1 u2 u3 u4 : Bool) (c : Nat) (h : c < 65536) : hexN 0 [hexT u1 (c / 4096 % 16), hexT u2 (c / 256 % 16), hexT u3 (c / 16 % 16), hexT u4 (c % 16)] = some c := by
  have h1 := Nat.mod_lt (c / 4096) (show 16 > 0 by decide)
  have h2 := Nat.mod_lt (c / 256) (show 16 > 0 by decide)
  have h3 := Nat.mod_lt (c / 16) (show 16 > 0 by decide)
  have h4 := Nat.mod_lt c (show 16 > 0 by decide)
  unfold hexN; rw [hexT_back _ _ h1, if_pos h1]
  unfold hexN; rw [hexT_back _ _ h2, if_pos h2]
  unfold hexN; rw [hexT_back _ _ h3, if_pos h3]
  unfold hexN; rw [hexT_back _ _ h4, if_pos h4]
  unfold hexN
  congr 1
  omega
/-- an escape of four digits -/
def esc4 (u1 u2 u3 u4 : Bool) (c : Nat) : List UInt8 := [92, 117, hexT u1 (c / 4096 % 16), hexT u2 (c / 256 % 16), hexT u3 (c / 16 % 16), hexT u4 (c % 16)]
theorem escapedJ_esc4 (ps : List UInt8) (k c : Nat) : ∃ u1 u2 u3 u4, escapedJ ps k c = esc4 u1 u2 u3 u4 c := ⟨_, _, _, _, rfl⟩
theorem escJ_one (u1 u2 u3 u4 : Bool) (c : Nat) (h : c < 65536) (hs : ¬ (55296 ≤ c ∧ c < 57344)) (r : List UInt8) : escJ (esc4 u1 u2 u3 u4 c ++ r) = some (encU c, 6) := by
  have hx := hex_four u1 u2 u3 u4 c h
  unfold esc4
  simp only [List.cons_append, List.nil_append]
  rw [escJ_cons, if_pos (by decide)]
  unfold escU
  rw [if_neg (by simp)]
  simp only [List.drop_succ_cons, List.drop_zero, List.take_succ_cons, List.take_zero]
  rw [hx]
  simp only
  rw [if_pos (by unfold surrB; simp; omega)]
theorem escJ_two (u1 u2 u3 u4 v1 v2 v3 v4 : Bool) (a b : Nat) (ha : 55296 ≤ a ∧ a < 56320) (hb : 56320 ≤ b ∧ b < 57344) (r : List UInt8) :
    escJ (esc4 u1 u2 u3 u4 a ++ (esc4 v1 v2 v3 v4 b ++ r)) = some (encU ((a - 55296) * 1024 + (b - 56320) + 65536), 12) := by
  have hx := hex_four u1 u2 u3 u4 a (by omega)
  have hy := hex_four v1 v2 v3 v4 b (by omega)
  have hp : pairR a b = (a - 55296) * 1024 + (b - 56320) + 65536 := by unfold pairR; rw [if_pos (by omega)]
  unfold esc4
  simp only [List.cons_append, List.nil_append]
  rw [escJ_cons, if_pos (by decide)]
  unfold escU
  rw [if_neg (by simp)]
  simp only [List.drop_succ_cons, List.drop_zero, List.take_succ_cons, List.take_zero]
  rw [hx]
  simp only
  rw [if_neg (by unfold surrB; simp; omega), if_neg (by simp), hy]
  simp only
  rw [if_pos (by rw [hp]; refine ⟨?_, ?_, by omega⟩ <;> simp), hp]

/-! ### a string -/
theorem u8char_ascii (b : UInt8) (l : List UInt8) (h : b.toNat < 128) : u8char (b :: l) = some (b.toNat, 1) := by rw [u8char_cons, if_pos h]
theorem strA_esc {l out b : List UInt8} {m : Nat} {d : UInt8} (he : escJ (92 :: d :: l) = some (b, m)) : strA (92 :: d :: l) out = strA ((92 :: d :: l).drop m) (out ++ b) := by
  rw [strA_some (u8char_ascii 92 _ (by decide)), if_neg (by decide), if_neg (by decide), if_pos (by decide), he]
theorem shortE_all : ((List.range 128).all fun c => shortE c == 0 || (escC (UInt8.ofNat (shortE c)).toNat == c && (UInt8.ofNat (shortE c)).toNat != 117)) = true := by decide
theorem shortE_low {c : Nat} (h : shortE c ≠ 0) : c < 128 := by
  unfold shortE at h
  repeat' split at h
  all_goals first | omega | exact absurd rfl h
theorem shortE_back {c : Nat} (h : shortE c ≠ 0) : escC (UInt8.ofNat (shortE c)).toNat = c ∧ (UInt8.ofNat (shortE c)).toNat ≠ 117 ∧ c ≠ 0 := by
  have hl := shortE_low h
  have := List.all_eq_true.1 shortE_all c (List.mem_range.2 hl)
  simp only [Bool.or_eq_true, beq_iff_eq, Bool.and_eq_true, bne_iff_ne] at this
  rcases this with h' | ⟨h1, h2⟩
  · exact absurd h' h
  · refine ⟨h1, h2, ?_⟩
    intro e; subst e; exact h rfl
/-- a character, in whatever way it is written -/
theorem strA_char {ps : List UInt8} {k c n : Nat} {l r out : List UInt8} (h : u8char l = some (c, n)) :
    strA ((charJ ps k c (l.take n)).1 ++ r) out = strA r (out ++ l.take n) := by
  have hb := encU_back h
  have hok := u8char_ok h
  have hsz := u8char_size h
  unfold charJ
  simp only
  split
  · rename_i hc
    obtain ⟨h1, h2, h3⟩ := shortE_back hc.1
    have hl := shortE_low hc.1
    have he : escJ (92 :: UInt8.ofNat (shortE c) :: r) = some (l.take n, 2) := by
      rw [escJ_cons, if_neg h2, if_neg (by rw [h1]; exact h3), h1, ← hb]
      unfold encU; rw [if_pos hl]
    simp only [List.cons_append, List.nil_append]
    rw [strA_esc he]; rfl
  · split
    · rename_i hc
      have hm := hc.1
      unfold mustE at hm
      simp at hm
      rw [strA_some (u8char_take h), if_neg (by omega), if_neg (by omega), if_neg (by omega)]
      have hlen : (l.take n).length = n := by simp; omega
      rw [List.drop_left' hlen, List.take_left' hlen]
    · split
      · rename_i hc
        obtain ⟨u1, u2, u3, u4, e1⟩ := escapedJ_esc4 ps (pickK ps k) (55296 + (c - 65536) / 1024)
        obtain ⟨v1, v2, v3, v4, e2⟩ := escapedJ_esc4 ps (escapedK ps (pickK ps k)) (56320 + (c - 65536) % 1024)
        have hm := Nat.mod_lt (c - 65536) (show 1024 > 0 by decide)
        have he := escJ_two u1 u2 u3 u4 v1 v2 v3 v4 (55296 + (c - 65536) / 1024) (56320 + (c - 65536) % 1024) (by omega) (by omega) r
        rw [show (55296 + (c - 65536) / 1024 - 55296) * 1024 + (56320 + (c - 65536) % 1024 - 56320) + 65536 = c by omega, hb] at he
        rw [e1, e2, List.append_assoc]
        exact strA_esc he
      · rename_i hc
        obtain ⟨u1, u2, u3, u4, e1⟩ := escapedJ_esc4 ps (pickK ps k) c
        have he := escJ_one u1 u2 u3 u4 c (by omega) (by omega) r
        rw [hb] at he
        rw [e1]
        exact strA_esc he
theorem strA_chars (ps : List UInt8) : ∀ (f : Nat) (l : List UInt8) (k : Nat), l.length ≤ f → utf8V l = true → ∃ X, (∀ out, (charsJ ps f l k out).1 = out ++ X) ∧ ∀ r acc, strA (X ++ r) acc = strA r (acc ++ l)
  | 0, l, k, hl, _ => by
    have : l = [] := List.eq_nil_of_length_eq_zero (by omega)
    subst this
    exact ⟨[], fun out => by simp [charsJ], fun r acc => by simp⟩
  | f + 1, l, k, hl, hv => by
    unfold charsJ
    rcases h : u8char l with _ | ⟨c, n⟩
    · have : l = [] := by
        by_cases hne : l = []
        · exact hne
        · rw [utf8V_none hne h] at hv; cases hv
      subst this
      exact ⟨[], fun out => by simp, fun r acc => by simp⟩
    · have hn := u8char_size h
      have hv' : utf8V (l.drop n) = true := by rw [← utf8V_some h]; exact hv
      obtain ⟨X, hX, hr⟩ := strA_chars ps f (l.drop n) (charJ ps k c (l.take n)).2 (by simp; omega) hv'
      refine ⟨(charJ ps k c (l.take n)).1 ++ X, fun out => ?_, fun r acc => ?_⟩
      · simp only; rw [hX, List.append_assoc]
      · rw [List.append_assoc, strA_char h, hr, List.append_assoc, List.take_append_drop]
theorem strJ_quoted (ps : List UInt8) (k : Nat) (t r : List UInt8) (hv : utf8V t = true) : strJ (quotedJ ps k t ++ r) = some (t, (quotedJ ps k t).length) := by
  obtain ⟨X, hX, hr⟩ := strA_chars ps t.length t k (Nat.le_refl _) hv
  unfold quotedJ
  rw [hX]
  simp only [List.cons_append, List.nil_append, List.append_assoc]
  rw [strJ_cons, hr, List.nil_append, strA_some (u8char_ascii 34 r (by decide)), if_pos (by decide)]
  simp only [List.length_cons, List.length_append, List.length_nil, Nat.add_sub_cancel]
  congr 2
  omega
theorem quotedJ_head (ps : List UInt8) (k : Nat) (t : List UInt8) : ∃ X, quotedJ ps k t = 34 :: X := by
  have : ∀ f l k out, ∃ X, (charsJ ps f l k out).1 = out ++ X := by
    intro f
    induction f with
    | zero => intro l k out; exact ⟨[], by simp [charsJ]⟩
    | succ f ih =>
      intro l k out
      unfold charsJ
      rcases h : u8char l with _ | ⟨c, n⟩
      · exact ⟨[], by simp⟩
      · obtain ⟨X, hX⟩ := ih (l.drop n) (charJ ps k c (l.take n)).2 (out ++ (charJ ps k c (l.take n)).1)
        exact ⟨_, by simp only; rw [hX, List.append_assoc]⟩
  obtain ⟨X, hX⟩ := this t.length t k [34]
  exact ⟨X ++ [34], by unfold quotedJ; rw [hX]; rfl⟩

/-! ### a number -/
theorem digN_all : ∀ (l r : List UInt8), (∀ c ∈ l, isDg c = true) → (∀ c t, r = c :: t → isDg c = false) → digN (l ++ r) = l.length
  | [], [], _, _ => rfl
  | [], c :: r, _, h => by rw [List.nil_append, digN_cons, h c r rfl]; rfl
  | c :: l, r, h1, h2 => by
    rw [List.cons_append, digN_cons, h1 c (by simp), if_pos rfl, digN_all l r (fun d hd => h1 d (by simp [hd])) h2]; rfl
theorem delim_facts {c : UInt8} (h : notDel c = false) : isDg c = false ∧ c.toNat ≠ 46 ∧ c.toNat ≠ 101 ∧ c.toNat ≠ 69 := by
  unfold notDel at h
  simp at h
  refine ⟨?_, by omega, by omega, by omega⟩
  cases hd : isDg c with
  | false => rfl
  | true => rw [hd] at h; simp at h
theorem digitsJ_dg (t : List UInt8) : ∀ c ∈ digitsJ t, isDg c = true := by
  intro c hc
  unfold digitsJ at hc
  obtain ⟨d, _, rfl⟩ := List.mem_map.1 hc
  have := Nat.mod_lt d.toNat (show 10 > 0 by decide)
  unfold isDg
  have e : (UInt8.ofNat (48 + d.toNat % 10)).toNat = 48 + d.toNat % 10 := by simp; omega
  rw [e]; simp; omega
theorem stripJ_sub : ∀ l : List UInt8, ∀ c ∈ stripJ l, c ∈ l
  | [], c, h => h
  | [_], c, h => h
  | a :: d :: l, c, h => by
    unfold stripJ at h; split at h
    · exact List.mem_cons_of_mem _ (stripJ_sub (d :: l) c h)
    · exact h
theorem stripJ_form : ∀ l : List UInt8, (∀ c ∈ l, isDg c = true) → stripJ l = [] ∨ stripJ l = [48] ∨ ∃ c m, stripJ l = c :: m ∧ 49 ≤ c.toNat ∧ c.toNat ≤ 57
  | [], _ => .inl rfl
  | [c], h => by
    have hc := h c (by simp)
    unfold isDg at hc
    simp at hc
    by_cases h0 : c.toNat = 48
    · exact .inr (.inl (by have : c = 48 := UInt8.toNat_inj.1 h0; rw [this]; rfl))
    · exact .inr (.inr ⟨c, [], rfl, by omega, hc.2⟩)
  | a :: d :: l, h => by
    unfold stripJ
    split
    · exact stripJ_form (d :: l) fun c hc => h c (by simp only [List.mem_cons] at hc ⊢; exact .inr hc)
    · rename_i hne
      have hc := h a (by simp)
      unfold isDg at hc
      simp at hc
      refine .inr (.inr ⟨a, d :: l, rfl, ?_, hc.2⟩)
      have : a.toNat ≠ 48 := fun e => hne (UInt8.toNat_inj.1 e)
      omega
theorem bodyJ_form (t : List UInt8) : bodyJ t = [48] ∨ ∃ c m, bodyJ t = c :: m ∧ (49 ≤ c.toNat ∧ c.toNat ≤ 57) ∧ ∀ d ∈ m, isDg d = true := by
  have hd : ∀ c ∈ stripJ (digitsJ t), isDg c = true := fun c hc => digitsJ_dg t c (stripJ_sub _ c hc)
  unfold bodyJ noughtJ
  rcases stripJ_form (digitsJ t) (digitsJ_dg t) with h | h | ⟨c, m, h, h1, h2⟩
  · rw [if_pos h]; exact .inl rfl
  · rw [h]; exact .inl rfl
  · rw [h] at hd ⊢
    rw [if_neg (by simp)]
    exact .inr ⟨c, m, rfl, ⟨h1, h2⟩, fun d hd' => hd d (by simp [hd'])⟩
theorem intN_body (t r : List UInt8) (h : ∀ c l, r = c :: l → isDg c = false) : intN (bodyJ t ++ r) = some (bodyJ t).length := by
  rcases bodyJ_form t with e | ⟨c, m, e, h1, h2⟩
  · rw [e, List.cons_append, intN_cons, if_pos (by decide)]; rfl
  · rw [e, List.cons_append, intN_cons, if_neg (by omega), if_pos h1, digN_all m r h2 h, List.length_cons, Nat.add_comm]
theorem fracT_form (n : Nat) : ∃ d m, fracT n = 46 :: d :: m ∧ isDg d = true ∧ ∀ x ∈ m, isDg x = true := by
  unfold fracT
  split
  all_goals exact ⟨_, _, rfl, by decide, by decide⟩
theorem powT_form (n : Nat) : ∃ d m, powT n = d :: m ∧ isDg d = true ∧ ∀ x ∈ m, isDg x = true := by
  unfold powT
  split
  all_goals exact ⟨_, _, rfl, by decide, by decide⟩
theorem fracJ_form (ps : List UInt8) (k : Nat) : (fracJ ps k).1 = [] ∨ ∃ n, (fracJ ps k).1 = fracT n := by
  unfold fracJ; split
  · exact .inr ⟨_, rfl⟩
  · exact .inl rfl
theorem expJ_form (ps : List UInt8) (k : Nat) : (expJ ps k).1 = [] ∨ ∃ a b c, (expJ ps k).1 = eT a ++ sgnT b ++ powT c := by
  unfold expJ; split
  · exact .inr ⟨_, _, _, rfl⟩
  · exact .inl rfl
theorem eT_form (a : Nat) : ∃ e : UInt8, eT a = [e] ∧ (e.toNat = 101 ∨ e.toNat = 69) ∧ isDg e = false ∧ e.toNat ≠ 46 := by
  unfold eT; split
  · exact ⟨69, rfl, by decide, by decide, by decide⟩
  · exact ⟨101, rfl, by decide, by decide, by decide⟩
theorem sgnT_form (b : Nat) : sgnT b = [] ∨ ∃ s : UInt8, sgnT b = [s] ∧ (s.toNat = 43 ∨ s.toNat = 45) := by
  unfold sgnT; split
  · exact .inr ⟨43, rfl, by decide⟩
  · split
    · exact .inr ⟨45, rfl, by decide⟩
    · exact .inl rfl
theorem expN_written (x r : List UInt8) (hx : x = [] ∨ ∃ a b c, x = eT a ++ sgnT b ++ powT c) (hr : Delim r) : expN (x ++ r) = some x.length ∧ ∀ c l, x ++ r = c :: l → isDg c = false ∧ c.toNat ≠ 46 := by
  rcases hx with rfl | ⟨a, b, c, rfl⟩
  · refine ⟨?_, fun c l h => ⟨(delim_facts (hr c l h)).1, (delim_facts (hr c l h)).2.1⟩⟩
    match r, hr with
    | [], _ => rfl
    | [_], _ => rfl
    | c :: d :: l, hr =>
      have := delim_facts (hr c (d :: l) rfl)
      rw [List.nil_append, expN_two, if_neg (by omega)]; rfl
  · obtain ⟨e, he, he1, he2, he3⟩ := eT_form a
    obtain ⟨d, m, hp, hd, hm⟩ := powT_form c
    have hdl : ∀ c l, r = c :: l → isDg c = false := fun c l h => (delim_facts (hr c l h)).1
    have hd' := hd
    unfold isDg at hd'
    simp at hd'
    rw [he, hp]
    refine ⟨?_, fun c l h => ?_⟩
    · rcases sgnT_form b with hs | ⟨s, hs, hs1⟩
      · rw [hs]
        simp only [List.append_nil, List.cons_append, List.nil_append]
        rw [expN_two, if_pos he1, if_neg (by omega), digN_cons, hd, if_pos rfl, digN_all m r hm hdl]
        simp only [List.length_cons]; congr 1; omega
      · rw [hs]
        simp only [List.cons_append, List.nil_append]
        rw [expN_two, if_pos he1, if_pos hs1, if_neg (by simp), digN_cons, hd, if_pos rfl, digN_all m r hm hdl]
        simp only [List.length_cons]; congr 1; omega
    · simp only [List.cons_append, List.nil_append] at h
      injection h with h _
      rw [← h]; exact ⟨he2, he3⟩
theorem fracN_written (y x : List UInt8) (hy : y = [] ∨ ∃ n, y = fracT n) (hx : ∀ c l, x = c :: l → isDg c = false ∧ c.toNat ≠ 46) : fracN (y ++ x) = y.length ∧ ∀ c l, y ++ x = c :: l → isDg c = false := by
  rcases hy with rfl | ⟨n, rfl⟩
  · refine ⟨?_, fun c l h => (hx c l h).1⟩
    match x, hx with
    | [], _ => rfl
    | [_], _ => rfl
    | c :: d :: l, hx => rw [List.nil_append, fracN_two, if_neg (fun h => (hx c (d :: l) rfl).2 h.1)]; rfl
  · obtain ⟨d, m, e, h1, h2⟩ := fracT_form n
    rw [e]
    refine ⟨?_, fun c l h => ?_⟩
    · simp only [List.cons_append]
      rw [fracN_two, if_pos ⟨by decide, h1⟩, digN_all m x h2 fun c l h => (hx c l h).1]
      simp only [List.length_cons]; omega
    · simp only [List.cons_append] at h
      injection h with h _
      rw [← h]; decide
theorem signT_form (n : Nat) : signT n = [45] ∨ signT n = [] := by unfold signT; split; exact .inl rfl; exact .inr rfl
theorem bodyJ_head (t r : List UInt8) : ∃ c m, bodyJ t ++ r = c :: m ∧ 48 ≤ c.toNat ∧ c.toNat ≤ 57 := by
  rcases bodyJ_form t with e | ⟨c, m, e, h1, h2⟩
  · exact ⟨48, r, by rw [e]; rfl, by decide, by decide⟩
  · exact ⟨c, m ++ r, by rw [e]; rfl, by omega, h1.2⟩
theorem numJ_written (ps : List UInt8) (k : Nat) (t r : List UInt8) (hr : Delim r) : numJ (numberJ ps k t ++ r) = some (numberJ ps k t).length := by
  unfold numberJ
  generalize hyy : (fracJ ps (pickK ps k)).1 = y
  generalize hxx : (expJ ps (fracJ ps (pickK ps k)).2).1 = x
  generalize hss : signT (pickV ps k 2) = sg
  have hy : y = [] ∨ ∃ n, y = fracT n := hyy ▸ fracJ_form ps (pickK ps k)
  have hx : x = [] ∨ ∃ a b c, x = eT a ++ sgnT b ++ powT c := hxx ▸ expJ_form ps _
  have hsg : sg = [45] ∨ sg = [] := hss ▸ signT_form _
  obtain ⟨hE, hE2⟩ := expN_written x r hx hr
  obtain ⟨hF, hF2⟩ := fracN_written y (x ++ r) hy hE2
  have hI := intN_body t (y ++ (x ++ r)) hF2
  obtain ⟨c0, m0, hb, hb1, hb2⟩ := bodyJ_head t (y ++ (x ++ r))
  have hN : negN (sg ++ (bodyJ t ++ (y ++ (x ++ r)))) = sg.length := by
    rcases hsg with rfl | rfl
    · rfl
    · rw [List.nil_append, hb]; unfold negN; simp only; rw [if_neg (by omega)]; rfl
  have hD0 : (sg ++ (bodyJ t ++ (y ++ (x ++ r)))).drop sg.length = bodyJ t ++ (y ++ (x ++ r)) := List.drop_left
  have hD1 : (sg ++ (bodyJ t ++ (y ++ (x ++ r)))).drop (sg.length + (bodyJ t).length) = y ++ (x ++ r) := by rw [← List.drop_drop, hD0]; exact List.drop_left
  have hD2 : (sg ++ (bodyJ t ++ (y ++ (x ++ r)))).drop (sg.length + (bodyJ t).length + y.length) = x ++ r := by rw [← List.drop_drop, hD1]; exact List.drop_left
  have hD3 : (sg ++ (bodyJ t ++ (y ++ (x ++ r)))).drop (sg.length + (bodyJ t).length + y.length + x.length) = r := by rw [← List.drop_drop, hD2]; exact List.drop_left
  simp only [List.append_assoc]
  unfold numJ
  rw [hN, hD0, hI]
  simp only
  rw [hD1, hF, hD2, hE]
  simp only
  rw [hD3]
  have hlen : (sg ++ (bodyJ t ++ (y ++ x))).length = sg.length + (bodyJ t).length + y.length + x.length := by simp only [List.length_append]; omega
  rw [hlen]
  match r, hr with
  | [], _ => rfl
  | c :: l, hr => simp only; rw [hr c l rfl]; rfl

/-! ### the next token -/
/-- what may stand behind a token of this kind -/
def Ends (kd : Nat) (r : List UInt8) : Prop := (kd = 64 ∨ kd = 128 ∨ kd = 256 ∨ kd = 512 ∨ kd = 1024) ∨ Delim r
theorem Ends.delim {kd : Nat} {r : List UInt8} (h : Ends kd r) (hk : kd ≤ 16) : Delim r := by
  rcases h with h | h
  · omega
  · exact h
/-- this text is read as this token, whatever stands behind it that ends it -/
structure Lexed (kd : Nat) (str : List UInt8) (tru : Bool) (text : List UInt8) : Prop where
  next : ∀ r, Ends kd r → nextJ (text ++ r) = some (kd, text.length, tru, str)
  head : ∃ c l, text = c :: l ∧ wsC c = false
theorem lexed_quoted (ps : List UInt8) (k : Nat) (t : List UInt8) (hv : utf8V t = true) : Lexed 16 t false (quotedJ ps k t) := by
  obtain ⟨X, hX⟩ := quotedJ_head ps k t
  refine ⟨fun r _ => ?_, 34, X, hX, by decide⟩
  have hs := strJ_quoted ps k t r hv
  rw [hX] at hs ⊢
  rw [List.cons_append] at hs ⊢
  rw [nextJ_cons, if_neg (by decide), if_neg (by decide), if_neg (by decide), if_neg (by decide), if_pos (by decide), hs]
theorem numberJ_head (ps : List UInt8) (k : Nat) (t : List UInt8) : ∃ c l, numberJ ps k t = c :: l ∧ (c.toNat = 45 ∨ isDg c = true) := by
  unfold numberJ
  rw [List.append_assoc, List.append_assoc]
  rcases signT_form (pickV ps k 2) with h | h
  · rw [h]; exact ⟨45, _, rfl, .inl (by decide)⟩
  · rw [h, List.nil_append]
    obtain ⟨c, m, hb, h1, h2⟩ := bodyJ_head t ((fracJ ps (pickK ps k)).1 ++ (expJ ps (fracJ ps (pickK ps k)).2).1)
    exact ⟨c, m, hb, .inr (by unfold isDg; simp; omega)⟩
theorem lexed_number (ps : List UInt8) (k : Nat) (t : List UInt8) : Lexed 8 [] false (numberJ ps k t) := by
  obtain ⟨c, l, hX, hc⟩ := numberJ_head ps k t
  have hc' : c.toNat = 45 ∨ 48 ≤ c.toNat ∧ c.toNat ≤ 57 := by rcases hc with h | h; exact .inl h; (unfold isDg at h; simp at h; exact .inr h)
  refine ⟨fun r hr => ?_, c, l, hX, by unfold wsC; simp; omega⟩
  have hs := numJ_written ps k t r (hr.delim (by decide))
  rw [hX] at hs ⊢
  rw [List.cons_append] at hs ⊢
  rw [nextJ_cons, if_neg (by omega), if_neg (by omega), if_neg (by omega), if_pos hc, hs]
theorem wordD_written (s r : List UInt8) (hr : Delim r) : wordD s (s ++ r) = true := by
  unfold wordD
  rw [List.drop_left, Bool.and_eq_true]
  refine ⟨List.isPrefixOf_iff_prefix.2 ⟨r, rfl⟩, ?_⟩
  match r, hr with
  | [], _ => rfl
  | c :: l, hr => simp [hr c l rfl]
theorem lexed_null : Lexed 2 [] false [110, 117, 108, 108] := by
  refine ⟨fun r hr => ?_, _, _, rfl, by decide⟩
  have := wordD_written [110, 117, 108, 108] r (hr.delim (by decide))
  simp only [List.cons_append, List.nil_append] at this ⊢
  rw [nextJ_cons, if_pos (by decide), this]; rfl
theorem lexed_true : Lexed 4 [] true [116, 114, 117, 101] := by
  refine ⟨fun r hr => ?_, _, _, rfl, by decide⟩
  have := wordD_written [116, 114, 117, 101] r (hr.delim (by decide))
  simp only [List.cons_append, List.nil_append] at this ⊢
  rw [nextJ_cons, if_neg (by decide), if_pos (by decide), this]; rfl
theorem lexed_false : Lexed 4 [] false [102, 97, 108, 115, 101] := by
  refine ⟨fun r hr => ?_, _, _, rfl, by decide⟩
  have := wordD_written [102, 97, 108, 115, 101] r (hr.delim (by decide))
  simp only [List.cons_append, List.nil_append] at this ⊢
  rw [nextJ_cons, if_neg (by decide), if_neg (by decide), if_pos (by decide), this]; rfl
theorem lexed_open : Lexed 64 [] false [123] := ⟨fun r _ => by rw [List.cons_append, nextJ_cons]; rfl, _, _, rfl, by decide⟩
theorem lexed_close : Lexed 128 [] false [125] := ⟨fun r _ => by rw [List.cons_append, nextJ_cons]; rfl, _, _, rfl, by decide⟩
theorem lexed_list : Lexed 256 [] false [91] := ⟨fun r _ => by rw [List.cons_append, nextJ_cons]; rfl, _, _, rfl, by decide⟩
theorem lexed_listEnd : Lexed 512 [] false [93] := ⟨fun r _ => by rw [List.cons_append, nextJ_cons]; rfl, _, _, rfl, by decide⟩
theorem lexed_comma : Lexed 1024 [] false [44] := ⟨fun r _ => by rw [List.cons_append, nextJ_cons]; rfl, _, _, rfl, by decide⟩
theorem delim_space {q : Nat} {c : UInt8} {r : List UInt8} (h : notDel c = false) : Delim (spaceT q ++ c :: r) := by
  unfold spaceT
  split <;> exact Delim.cons (by first | exact h | decide)
theorem delim_spaces (q : Nat) : Delim (spaceT q) := by
  unfold spaceT
  split <;> first | exact Delim.nil | exact Delim.cons (by decide)
end Go.Proofs.YtjkmmhnhhiopiaaDoor
