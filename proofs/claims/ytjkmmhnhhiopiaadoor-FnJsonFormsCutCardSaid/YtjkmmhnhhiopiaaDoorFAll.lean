/-
  What the writer writes is read as its tokens; cut, it is refused; escapes are read as what they stand for. Plain.
-/
import Derived.Test.YtjkmmhnhhiopiaaDoorDModel
import Derived.Test.YtjkmmhnhhiopiaaDoorWAll
import Derived.Test.YtjkmmhnhhiopiaaDoorDRun

namespace Go.Proofs.YtjkmmhnhhiopiaaDoor

/-- nothing that goes on with a word or number -/
def Delim (r : List UInt8) : Prop := ∀ c l, r = c :: l → notDel c = false
theorem Delim.nil : Delim [] := fun _ _ h => by cases h
theorem Delim.cons {c : UInt8} {l : List UInt8} (h : notDel c = false) : Delim (c :: l) := fun c' l' e => by injection e with e1 _; rw [← e1]; exact h

/-! ### a character written as an escape -/
theorem u8take_take : ∀ (k acc v : Nat) (l r : List UInt8), u8take k acc l = some v → u8take k acc (l.take k ++ r) = some v
  | 0, _, _, _, _, h => h
  | k + 1, acc, v, [], _, h => by simp [u8take] at h
  | k + 1, acc, v, c :: l, r, h => by
    unfold u8take at h
    simp only [List.take_succ_cons, List.cons_append]
    unfold u8take
    split at h
    · rename_i hc; rw [if_pos hc]; exact u8take_take k _ v l r h
    · cases h
theorem u8char_take {l r : List UInt8} {c n : Nat} (h : u8char l = some (c, n)) : u8char (l.take n ++ r) = some (c, n) := by
  have hs := u8char_size h
  cases l with
  | nil => cases h
  | cons b l =>
    obtain ⟨n, rfl⟩ : ∃ m, n = m + 1 := ⟨n - 1, by omega⟩
    simp only [List.take_succ_cons, List.cons_append]
    rw [u8char_cons] at h ⊢
    by_cases h1 : b.toNat < 128
    · rw [if_pos h1] at h ⊢; exact h
    · rw [if_neg h1] at h ⊢
      rcases hh : u8head b.toNat with _ | ⟨k, least, first⟩
      · rw [hh] at h; cases h
      · rw [hh] at h
        simp only at h ⊢
        rcases ht : u8take k first l with _ | v'
        · rw [ht] at h; cases h
        · rw [ht] at h
          simp only at h
          split at h
          · rename_i hok
            simp only [Option.some.injEq, Prod.mk.injEq] at h
            obtain ⟨rfl, hk⟩ := h
            obtain rfl : k = n := by omega
            rw [u8take_take _ _ _ _ r ht]
            simp only
            rw [if_pos hok]
          · cases h
theorem cont_eq {d : UInt8} {x : Nat} (h : contB d = true) (hx : x = 128 + d.toNat % 64) : UInt8.ofNat x = d := by
  unfold contB at h
  simp at h
  have := d.toNat_lt
  have : x = d.toNat := by omega
  rw [this]; simp
theorem head_eq {d : UInt8} {x : Nat} (hx : x = d.toNat) : UInt8.ofNat x = d := by rw [hx]; simp
theorem encU_back {l : List UInt8} {c n : Nat} (h : u8char l = some (c, n)) : encU c = l.take n := by
  cases l with
  | nil => cases h
  | cons b l =>
    rw [u8char_cons] at h
    by_cases h1 : b.toNat < 128
    · rw [if_pos h1] at h
      cases h
      unfold encU; rw [if_pos h1, head_eq rfl]; rfl
    · rw [if_neg h1] at h
      rcases hh : u8head b.toNat with _ | ⟨k, least, first⟩
      · rw [hh] at h; cases h
      · rw [hh] at h
        simp only at h
        rcases ht : u8take k first l with _ | v'
        · rw [ht] at h; cases h
        · rw [ht] at h
          simp only at h
          split at h
          · rename_i hok
            simp only [Option.some.injEq, Prod.mk.injEq] at h
            obtain ⟨rfl, rfl⟩ := h
            have hb := b.toNat_lt
            unfold u8ok at hok
            simp at hok
            unfold u8head at hh
            by_cases g1 : 194 ≤ b.toNat ∧ b.toNat < 224
            · rw [if_pos g1] at hh
              simp only [Option.some.injEq, Prod.mk.injEq] at hh
              obtain ⟨rfl, rfl, rfl⟩ := hh
              match l, ht with
              | d :: l, ht =>
                simp only [u8take] at ht
                split at ht
                · rename_i hd
                  simp only [Option.some.injEq] at ht
                  have hd' := Nat.mod_lt d.toNat (show 64 > 0 by decide)
                  unfold encU
                  rw [if_neg (by omega), if_pos (by omega), head_eq (d := b) (by omega), cont_eq hd (by omega)]; rfl
                · cases ht
            · rw [if_neg g1] at hh
              by_cases g2 : 224 ≤ b.toNat ∧ b.toNat < 240
              · rw [if_pos g2] at hh
                simp only [Option.some.injEq, Prod.mk.injEq] at hh
                obtain ⟨rfl, rfl, rfl⟩ := hh
                match l, ht with
                | d :: e :: l, ht =>
                  simp only [u8take] at ht
                  split at ht
                  · rename_i hd
                    split at ht
                    · rename_i he
                      simp only [Option.some.injEq] at ht
                      have hd' := Nat.mod_lt d.toNat (show 64 > 0 by decide)
                      have he' := Nat.mod_lt e.toNat (show 64 > 0 by decide)
                      unfold encU
                      rw [if_neg (by omega), if_neg (by omega), if_pos (by omega), head_eq (d := b) (by omega), cont_eq hd (by omega), cont_eq he (by omega)]; rfl
                    · cases ht
                  · cases ht
                | [d], ht =>
                  simp only [u8take] at ht
                  split at ht <;> cases ht
              · rw [if_neg g2] at hh
                by_cases g3 : 240 ≤ b.toNat ∧ b.toNat < 245
                · rw [if_pos g3] at hh
                  simp only [Option.some.injEq, Prod.mk.injEq] at hh
                  obtain ⟨rfl, rfl, rfl⟩ := hh
                  match l, ht with
                  | d :: e :: f :: l, ht =>
                    simp only [u8take] at ht
                    split at ht
                    · rename_i hd
                      split at ht
                      · rename_i he
                        split at ht
                        · rename_i hf
                          simp only [Option.some.injEq] at ht
                          have hd' := Nat.mod_lt d.toNat (show 64 > 0 by decide)
                          have he' := Nat.mod_lt e.toNat (show 64 > 0 by decide)
                          have hf' := Nat.mod_lt f.toNat (show 64 > 0 by decide)
                          unfold encU
                          rw [if_neg (by omega), if_neg (by omega), if_neg (by omega), head_eq (d := b) (by omega), cont_eq hd (by omega), cont_eq he (by omega), cont_eq hf (by omega)]; rfl
                        · cases ht
                      · cases ht
                    · cases ht
                  | [d], ht =>
                    simp only [u8take] at ht
                    split at ht <;> cases ht
                  | [d, e], ht =>
                    simp only [u8take] at ht
                    repeat' split at ht
                    all_goals cases ht
                · rw [if_neg g3] at hh; cases hh
          · cases h
theorem u8char_ok {l : List UInt8} {c n : Nat} (h : u8char l = some (c, n)) : c < 55296 ∨ 57344 ≤ c ∧ c ≤ 1114111 := by
  cases l with
  | nil => cases h
  | cons b l =>
    rw [u8char_cons] at h
    by_cases h1 : b.toNat < 128
    · rw [if_pos h1] at h; cases h; omega
    · rw [if_neg h1] at h
      rcases hh : u8head b.toNat with _ | ⟨k, least, first⟩
      · rw [hh] at h; cases h
      · rw [hh] at h
        simp only at h
        rcases ht : u8take k first l with _ | v'
        · rw [ht] at h; cases h
        · rw [ht] at h
          simp only at h
          split at h
          · rename_i hok
            simp only [Option.some.injEq, Prod.mk.injEq] at h
            obtain ⟨rfl, _⟩ := h
            unfold u8ok at hok
            simp at hok
            omega
          · cases h
theorem hexT_all : ((List.range 16).all fun n => hexV (hexT true n).toNat == n && hexV (hexT false n).toNat == n) = true := by decide
theorem hexT_back (up : Bool) (n : Nat) (h : n < 16) : hexV (hexT up n).toNat = n := by
  have := List.all_eq_true.1 hexT_all n (List.mem_range.2 h)
  simp at this
  cases up
  · exact this.2
  · exact this.1
/-- four digits, small or large -/
theorem hex_four (u1 u2 u3 u4 : Bool) (c : Nat) (h : c < 65536) : hexN 0 [hexT u1 (c / 4096 % 16), hexT u2 (c / 256 % 16), hexT u3 (c / 16 % 16), hexT u4 (c % 16)] = some c := by
  have h1 := Nat.mod_lt (c / 4096) (show 16 > 0 by decide)
  have h2 := Nat.mod_lt (c / 256) (show 16 > 0 by decide)
  have h3 := Nat.mod_lt (c / 16) (show 16 > 0 by decide)
  have h4 := Nat.mod_lt c (show 16 > 0 by decide)
  unfold hexN; rw [hexT_back _ _ h1, if_pos h1]
  unfold hexN; rw [hexT_back _ _ h2, if_pos h2]
  unfold hexN; rw [hexT_back _ _ h3, if_pos h3]
  unfold hexN; rw [hexT_back _ _ h4, if_pos h4]
  unfold hexN
  congr 1
  omega
/-- an escape of four digits -/
def esc4 (u1 u2 u3 u4 : Bool) (c : Nat) : List UInt8 := [92, 117, hexT u1 (c / 4096 % 16), hexT u2 (c / 256 % 16), hexT u3 (c / 16 % 16), hexT u4 (c % 16)]
theorem escapedJ_esc4 (ps : List UInt8) (k c : Nat) : ∃ u1 u2 u3 u4, escapedJ ps k c = esc4 u1 u2 u3 u4 c := ⟨_, _, _, _, rfl⟩
theorem escJ_one (u1 u2 u3 u4 : Bool) (c : Nat) (h : c < 65536) (hs : ¬ (55296 ≤ c ∧ c < 57344)) (r : List UInt8) : escJ (esc4 u1 u2 u3 u4 c ++ r) = some (encU c, 6) := by
  have hx := hex_four u1 u2 u3 u4 c h
  unfold esc4
  simp only [List.cons_append, List.nil_append]
  rw [escJ_cons, if_pos (by decide)]
  unfold escU
  rw [if_neg (by simp)]
  simp only [List.drop_succ_cons, List.drop_zero, List.take_succ_cons, List.take_zero]
  rw [hx]
  simp only
  rw [if_pos (by unfold surrB; simp; omega)]
theorem escJ_two (u1 u2 u3 u4 v1 v2 v3 v4 : Bool) (a b : Nat) (ha : 55296 ≤ a ∧ a < 56320) (hb : 56320 ≤ b ∧ b < 57344) (r : List UInt8) :
    escJ (esc4 u1 u2 u3 u4 a ++ (esc4 v1 v2 v3 v4 b ++ r)) = some (encU ((a - 55296) * 1024 + (b - 56320) + 65536), 12) := by
  have hx := hex_four u1 u2 u3 u4 a (by omega)
  have hy := hex_four v1 v2 v3 v4 b (by omega)
  have hp : pairR a b = (a - 55296) * 1024 + (b - 56320) + 65536 := by unfold pairR; rw [if_pos (by omega)]
  unfold esc4
  simp only [List.cons_append, List.nil_append]
  rw [escJ_cons, if_pos (by decide)]
  unfold escU
  rw [if_neg (by simp)]
  simp only [List.drop_succ_cons, List.drop_zero, List.take_succ_cons, List.take_zero]
  rw [hx]
  simp only
  rw [if_neg (by unfold surrB; simp; omega), if_neg (by simp), hy]
  simp only
  rw [if_pos (by rw [hp]; refine ⟨?_, ?_, by omega⟩ <;> simp), hp]

/-! ### a string -/
theorem u8char_ascii (b : UInt8) (l : List UInt8) (h : b.toNat < 128) : u8char (b :: l) = some (b.toNat, 1) := by rw [u8char_cons, if_pos h]
theorem strA_esc {l out b : List UInt8} {m : Nat} {d : UInt8} (he : escJ (92 :: d :: l) = some (b, m)) : strA (92 :: d :: l) out = strA ((92 :: d :: l).drop m) (out ++ b) := by
  rw [strA_some (u8char_ascii 92 _ (by decide)), if_neg (by decide), if_neg (by decide), if_pos (by decide), he]
theorem shortE_all : ((List.range 128).all fun c => shortE c == 0 || (escC (UInt8.ofNat (shortE c)).toNat == c && (UInt8.ofNat (shortE c)).toNat != 117)) = true := by decide
theorem shortE_low {c : Nat} (h : shortE c ≠ 0) : c < 128 := by
  unfold shortE at h
  repeat' split at h
  all_goals first | omega | exact absurd rfl h
theorem shortE_back {c : Nat} (h : shortE c ≠ 0) : escC (UInt8.ofNat (shortE c)).toNat = c ∧ (UInt8.ofNat (shortE c)).toNat ≠ 117 ∧ c ≠ 0 := by
  have hl := shortE_low h
  have := List.all_eq_true.1 shortE_all c (List.mem_range.2 hl)
  simp only [Bool.or_eq_true, beq_iff_eq, Bool.and_eq_true, bne_iff_ne] at this
  rcases this with h' | ⟨h1, h2⟩
  · exact absurd h' h
  · refine ⟨h1, h2, ?_⟩
    intro e; subst e; exact h rfl
/-- a character, in whatever way it is written -/
theorem strA_char {ps : List UInt8} {k c n : Nat} {l r out : List UInt8} (h : u8char l = some (c, n)) :
    strA ((charJ ps k c (l.take n)).1 ++ r) out = strA r (out ++ l.take n) := by
  have hb := encU_back h
  have hok := u8char_ok h
  have hsz := u8char_size h
  unfold charJ
  simp only
  split
  · rename_i hc
    obtain ⟨h1, h2, h3⟩ := shortE_back hc.1
    have hl := shortE_low hc.1
    have he : escJ (92 :: UInt8.ofNat (shortE c) :: r) = some (l.take n, 2) := by
      rw [escJ_cons, if_neg h2, if_neg (by rw [h1]; exact h3), h1, ← hb]
      unfold encU; rw [if_pos hl]
    simp only [List.cons_append, List.nil_append]
    rw [strA_esc he]; rfl
  · split
    · rename_i hc
      have hm := hc.1
      unfold mustE at hm
      simp at hm
      rw [strA_some (u8char_take h), if_neg (by omega), if_neg (by omega), if_neg (by omega)]
      have hlen : (l.take n).length = n := by simp; omega
      rw [List.drop_left' hlen, List.take_left' hlen]
    · split
      · rename_i hc
        obtain ⟨u1, u2, u3, u4, e1⟩ := escapedJ_esc4 ps (pickK ps k) (55296 + (c - 65536) / 1024)
        obtain ⟨v1, v2, v3, v4, e2⟩ := escapedJ_esc4 ps (escapedK ps (pickK ps k)) (56320 + (c - 65536) % 1024)
        have hm := Nat.mod_lt (c - 65536) (show 1024 > 0 by decide)
        have he := escJ_two u1 u2 u3 u4 v1 v2 v3 v4 (55296 + (c - 65536) / 1024) (56320 + (c - 65536) % 1024) (by omega) (by omega) r
        rw [show (55296 + (c - 65536) / 1024 - 55296) * 1024 + (56320 + (c - 65536) % 1024 - 56320) + 65536 = c by omega, hb] at he
        rw [e1, e2, List.append_assoc]
        exact strA_esc he
      · rename_i hc
        obtain ⟨u1, u2, u3, u4, e1⟩ := escapedJ_esc4 ps (pickK ps k) c
        have he := escJ_one u1 u2 u3 u4 c (by omega) (by omega) r
        rw [hb] at he
        rw [e1]
        exact strA_esc he
theorem strA_chars (ps : List UInt8) : ∀ (f : Nat) (l : List UInt8) (k : Nat), l.length ≤ f → utf8V l = true → ∃ X, (∀ out, (charsJ ps f l k out).1 = out ++ X) ∧ ∀ r acc, strA (X ++ r) acc = strA r (acc ++ l)
  | 0, l, k, hl, _ => by
    have : l = [] := List.eq_nil_of_length_eq_zero (by omega)
    subst this
    exact ⟨[], fun out => by simp [charsJ], fun r acc => by simp⟩
  | f + 1, l, k, hl, hv => by
    unfold charsJ
    rcases h : u8char l with _ | ⟨c, n⟩
    · have : l = [] := by
        by_cases hne : l = []
        · exact hne
        · rw [utf8V_none hne h] at hv; cases hv
      subst this
      exact ⟨[], fun out => by simp, fun r acc => by simp⟩
    · have hn := u8char_size h
      have hv' : utf8V (l.drop n) = true := by rw [← utf8V_some h]; exact hv
      obtain ⟨X, hX, hr⟩ := strA_chars ps f (l.drop n) (charJ ps k c (l.take n)).2 (by simp; omega) hv'
      refine ⟨(charJ ps k c (l.take n)).1 ++ X, fun out => ?_, fun r acc => ?_⟩
      · simp only; rw [hX, List.append_assoc]
      · rw [List.append_assoc, strA_char h, hr, List.append_assoc, List.take_append_drop]
theorem strJ_quoted (ps : List UInt8) (k : Nat) (t r : List UInt8) (hv : utf8V t = true) : strJ (quotedJ ps k t ++ r) = some (t, (quotedJ ps k t).length) := by
  obtain ⟨X, hX, hr⟩ := strA_chars ps t.length t k (Nat.le_refl _) hv
  unfold quotedJ
  rw [hX]
  simp only [List.cons_append, List.nil_append, List.append_assoc]
  rw [strJ_cons, hr, List.nil_append, strA_some (u8char_ascii 34 r (by decide)), if_pos (by decide)]
  simp only [List.length_cons, List.length_append, List.length_nil, Nat.add_sub_cancel]
  congr 2
  omega
theorem quotedJ_head (ps : List UInt8) (k : Nat) (t : List UInt8) : ∃ X, quotedJ ps k t = 34 :: X := by
  have : ∀ f l k out, ∃ X, (charsJ ps f l k out).1 = out ++ X := by
    intro f
    induction f with
    | zero => intro l k out; exact ⟨[], by simp [charsJ]⟩
    | succ f ih =>
      intro l k out
      unfold charsJ
      rcases h : u8char l with _ | ⟨c, n⟩
      · exact ⟨[], by simp⟩
      · obtain ⟨X, hX⟩ := ih (l.drop n) (charJ ps k c (l.take n)).2 (out ++ (charJ ps k c (l.take n)).1)
        exact ⟨_, by simp only; rw [hX, List.append_assoc]⟩
  obtain ⟨X, hX⟩ := this t.length t k [34]
  exact ⟨X ++ [34], by unfold quotedJ; rw [hX]; rfl⟩

/-! ### a number -/
theorem digN_all : ∀ (l r : List UInt8), (∀ c ∈ l, isDg c = true) → (∀ c t, r = c :: t → isDg c = false) → digN (l ++ r) = l.length
  | [], [], _, _ => rfl
  | [], c :: r, _, h => by rw [List.nil_append, digN_cons, h c r rfl]; rfl
  | c :: l, r, h1, h2 => by
    rw [List.cons_append, digN_cons, h1 c (by simp), if_pos rfl, digN_all l r (fun d hd => h1 d (by simp [hd])) h2]; rfl
theorem delim_facts {c : UInt8} (h : notDel c = false) : isDg c = false ∧ c.toNat ≠ 46 ∧ c.toNat ≠ 101 ∧ c.toNat ≠ 69 := by
  unfold notDel at h
  simp at h
  refine ⟨?_, by omega, by omega, by omega⟩
  cases hd : isDg c with
  | false => rfl
  | true => rw [hd] at h; simp at h
theorem digitsJ_dg (t : List UInt8) : ∀ c ∈ digitsJ t, isDg c = true := by
  intro c hc
  unfold digitsJ at hc
  obtain ⟨d, _, rfl⟩ := List.mem_map.1 hc
  have := Nat.mod_lt d.toNat (show 10 > 0 by decide)
  unfold isDg
  have e : (UInt8.ofNat (48 + d.toNat % 10)).toNat = 48 + d.toNat % 10 := by simp; omega
  rw [e]; simp; omega
theorem stripJ_sub : ∀ l : List UInt8, ∀ c ∈ stripJ l, c ∈ l
  | [], c, h => h
  | [_], c, h => h
  | a :: d :: l, c, h => by
    unfold stripJ at h; split at h
    · exact List.mem_cons_of_mem _ (stripJ_sub (d :: l) c h)
    · exact h
theorem stripJ_form : ∀ l : List UInt8, (∀ c ∈ l, isDg c = true) → stripJ l = [] ∨ stripJ l = [48] ∨ ∃ c m, stripJ l = c :: m ∧ 49 ≤ c.toNat ∧ c.toNat ≤ 57
  | [], _ => .inl rfl
  | [c], h => by
    have hc := h c (by simp)
    unfold isDg at hc
    simp at hc
    by_cases h0 : c.toNat = 48
    · exact .inr (.inl (by have : c = 48 := UInt8.toNat_inj.1 h0; rw [this]; rfl))
    · exact .inr (.inr ⟨c, [], rfl, by omega, hc.2⟩)
  | a :: d :: l, h => by
    unfold stripJ
    split
    · exact stripJ_form (d :: l) fun c hc => h c (by simp only [List.mem_cons] at hc ⊢; exact .inr hc)
    · rename_i hne
      have hc := h a (by simp)
      unfold isDg at hc
      simp at hc
      refine .inr (.inr ⟨a, d :: l, rfl, ?_, hc.2⟩)
      have : a.toNat ≠ 48 := fun e => hne (UInt8.toNat_inj.1 e)
      omega
theorem bodyJ_form (t : List UInt8) : bodyJ t = [48] ∨ ∃ c m, bodyJ t = c :: m ∧ (49 ≤ c.toNat ∧ c.toNat ≤ 57) ∧ ∀ d ∈ m, isDg d = true := by
  have hd : ∀ c ∈ stripJ (digitsJ t), isDg c = true := fun c hc => digitsJ_dg t c (stripJ_sub _ c hc)
  unfold bodyJ noughtJ
  rcases stripJ_form (digitsJ t) (digitsJ_dg t) with h | h | ⟨c, m, h, h1, h2⟩
  · rw [if_pos h]; exact .inl rfl
  · rw [h]; exact .inl rfl
  · rw [h] at hd ⊢
    rw [if_neg (by simp)]
    exact .inr ⟨c, m, rfl, ⟨h1, h2⟩, fun d hd' => hd d (by simp [hd'])⟩
theorem intN_body (t r : List UInt8) (h : ∀ c l, r = c :: l → isDg c = false) : intN (bodyJ t ++ r) = some (bodyJ t).length := by
  rcases bodyJ_form t with e | ⟨c, m, e, h1, h2⟩
  · rw [e, List.cons_append, intN_cons, if_pos (by decide)]; rfl
  · rw [e, List.cons_append, intN_cons, if_neg (by omega), if_pos h1, digN_all m r h2 h, List.length_cons, Nat.add_comm]
theorem fracT_form (n : Nat) : ∃ d m, fracT n = 46 :: d :: m ∧ isDg d = true ∧ ∀ x ∈ m, isDg x = true := by
  unfold fracT
  split
  all_goals exact ⟨_, _, rfl, by decide, by decide⟩
theorem powT_form (n : Nat) : ∃ d m, powT n = d :: m ∧ isDg d = true ∧ ∀ x ∈ m, isDg x = true := by
  unfold powT
  split
  all_goals exact ⟨_, _, rfl, by decide, by decide⟩
theorem fracJ_form (ps : List UInt8) (k : Nat) : (fracJ ps k).1 = [] ∨ ∃ n, (fracJ ps k).1 = fracT n := by
  unfold fracJ; split
  · exact .inr ⟨_, rfl⟩
  · exact .inl rfl
theorem expJ_form (ps : List UInt8) (k : Nat) : (expJ ps k).1 = [] ∨ ∃ a b c, (expJ ps k).1 = eT a ++ sgnT b ++ powT c := by
  unfold expJ; split
  · exact .inr ⟨_, _, _, rfl⟩
  · exact .inl rfl
theorem eT_form (a : Nat) : ∃ e : UInt8, eT a = [e] ∧ (e.toNat = 101 ∨ e.toNat = 69) ∧ isDg e = false ∧ e.toNat ≠ 46 := by
  unfold eT; split
  · exact ⟨69, rfl, by decide, by decide, by decide⟩
  · exact ⟨101, rfl, by decide, by decide, by decide⟩
theorem sgnT_form (b : Nat) : sgnT b = [] ∨ ∃ s : UInt8, sgnT b = [s] ∧ (s.toNat = 43 ∨ s.toNat = 45) := by
  unfold sgnT; split
  · exact .inr ⟨43, rfl, by decide⟩
  · split
    · exact .inr ⟨45, rfl, by decide⟩
    · exact .inl rfl
theorem expN_written (x r : List UInt8) (hx : x = [] ∨ ∃ a b c, x = eT a ++ sgnT b ++ powT c) (hr : Delim r) : expN (x ++ r) = some x.length ∧ ∀ c l, x ++ r = c :: l → isDg c = false ∧ c.toNat ≠ 46 := by
  rcases hx with rfl | ⟨a, b, c, rfl⟩
  · refine ⟨?_, fun c l h => ⟨(delim_facts (hr c l h)).1, (delim_facts (hr c l h)).2.1⟩⟩
    match r, hr with
    | [], _ => rfl
    | [_], _ => rfl
    | c :: d :: l, hr =>
      have := delim_facts (hr c (d :: l) rfl)
      rw [List.nil_append, expN_two, if_neg (by omega)]; rfl
  · obtain ⟨e, he, he1, he2, he3⟩ := eT_form a
    obtain ⟨d, m, hp, hd, hm⟩ := powT_form c
    have hdl : ∀ c l, r = c :: l → isDg c = false := fun c l h => (delim_facts (hr c l h)).1
    have hd' := hd
    unfold isDg at hd'
    simp at hd'
    rw [he, hp]
    refine ⟨?_, fun c l h => ?_⟩
    · rcases sgnT_form b with hs | ⟨s, hs, hs1⟩
      · rw [hs]
        simp only [List.append_nil, List.cons_append, List.nil_append]
        rw [expN_two, if_pos he1, if_neg (by omega), digN_cons, hd, if_pos rfl, digN_all m r hm hdl]
        simp only [List.length_cons]; congr 1; omega
      · rw [hs]
        simp only [List.cons_append, List.nil_append]
        rw [expN_two, if_pos he1, if_pos hs1, if_neg (by simp), digN_cons, hd, if_pos rfl, digN_all m r hm hdl]
        simp only [List.length_cons]; congr 1; omega
    · simp only [List.cons_append, List.nil_append] at h
      injection h with h _
      rw [← h]; exact ⟨he2, he3⟩
theorem fracN_written (y x : List UInt8) (hy : y = [] ∨ ∃ n, y = fracT n) (hx : ∀ c l, x = c :: l → isDg c = false ∧ c.toNat ≠ 46) : fracN (y ++ x) = y.length ∧ ∀ c l, y ++ x = c :: l → isDg c = false := by
  rcases hy with rfl | ⟨n, rfl⟩
  · refine ⟨?_, fun c l h => (hx c l h).1⟩
    match x, hx with
    | [], _ => rfl
    | [_], _ => rfl
    | c :: d :: l, hx => rw [List.nil_append, fracN_two, if_neg (fun h => (hx c (d :: l) rfl).2 h.1)]; rfl
  · obtain ⟨d, m, e, h1, h2⟩ := fracT_form n
    rw [e]
    refine ⟨?_, fun c l h => ?_⟩
    · simp only [List.cons_append]
      rw [fracN_two, if_pos ⟨by decide, h1⟩, digN_all m x h2 fun c l h => (hx c l h).1]
      simp only [List.length_cons]; omega
    · simp only [List.cons_append] at h
      injection h with h _
      rw [← h]; decide
theorem signT_form (n : Nat) : signT n = [45] ∨ signT n = [] := by unfold signT; split; exact .inl rfl; exact .inr rfl
theorem bodyJ_head (t r : List UInt8) : ∃ c m, bodyJ t ++ r = c :: m ∧ 48 ≤ c.toNat ∧ c.toNat ≤ 57 := by
  rcases bodyJ_form t with e | ⟨c, m, e, h1, h2⟩
  · exact ⟨48, r, by rw [e]; rfl, by decide, by decide⟩
  · exact ⟨c, m ++ r, by rw [e]; rfl, by omega, h1.2⟩
theorem numJ_written (ps : List UInt8) (k : Nat) (t r : List UInt8) (hr : Delim r) : numJ (numberJ ps k t ++ r) = some (numberJ ps k t).length := by
  unfold numberJ
  generalize hyy : (fracJ ps (pickK ps k)).1 = y
  generalize hxx : (expJ ps (fracJ ps (pickK ps k)).2).1 = x
  generalize hss : signT (pickV ps k 2) = sg
  have hy : y = [] ∨ ∃ n, y = fracT n := hyy ▸ fracJ_form ps (pickK ps k)
  have hx : x = [] ∨ ∃ a b c, x = eT a ++ sgnT b ++ powT c := hxx ▸ expJ_form ps _
  have hsg : sg = [45] ∨ sg = [] := hss ▸ signT_form _
  obtain ⟨hE, hE2⟩ := expN_written x r hx hr
  obtain ⟨hF, hF2⟩ := fracN_written y (x ++ r) hy hE2
  have hI := intN_body t (y ++ (x ++ r)) hF2
  obtain ⟨c0, m0, hb, hb1, hb2⟩ := bodyJ_head t (y ++ (x ++ r))
  have hN : negN (sg ++ (bodyJ t ++ (y ++ (x ++ r)))) = sg.length := by
    rcases hsg with rfl | rfl
    · rfl
    · rw [List.nil_append, hb]; unfold negN; simp only; rw [if_neg (by omega)]; rfl
  have hD0 : (sg ++ (bodyJ t ++ (y ++ (x ++ r)))).drop sg.length = bodyJ t ++ (y ++ (x ++ r)) := List.drop_left
  have hD1 : (sg ++ (bodyJ t ++ (y ++ (x ++ r)))).drop (sg.length + (bodyJ t).length) = y ++ (x ++ r) := by rw [← List.drop_drop, hD0]; exact List.drop_left
  have hD2 : (sg ++ (bodyJ t ++ (y ++ (x ++ r)))).drop (sg.length + (bodyJ t).length + y.length) = x ++ r := by rw [← List.drop_drop, hD1]; exact List.drop_left
  have hD3 : (sg ++ (bodyJ t ++ (y ++ (x ++ r)))).drop (sg.length + (bodyJ t).length + y.length + x.length) = r := by rw [← List.drop_drop, hD2]; exact List.drop_left
  simp only [List.append_assoc]
  unfold numJ
  rw [hN, hD0, hI]
  simp only
  rw [hD1, hF, hD2, hE]
  simp only
  rw [hD3]
  have hlen : (sg ++ (bodyJ t ++ (y ++ x))).length = sg.length + (bodyJ t).length + y.length + x.length := by simp only [List.length_append]; omega
  rw [hlen]
  match r, hr with
  | [], _ => rfl
  | c :: l, hr => simp only; rw [hr c l rfl]; rfl

/-! ### the next token -/
/-- what may stand behind a token of this kind -/
def Ends (kd : Nat) (r : List UInt8) : Prop := (kd = 64 ∨ kd = 128 ∨ kd = 256 ∨ kd = 512 ∨ kd = 1024) ∨ Delim r
theorem Ends.delim {kd : Nat} {r : List UInt8} (h : Ends kd r) (hk : kd ≤ 16) : Delim r := by
  rcases h with h | h
  · omega
  · exact h
/-- this text is read as this token, whatever stands behind it that ends it -/
structure Lexed (kd : Nat) (str : List UInt8) (tru : Bool) (text : List UInt8) : Prop where
  next : ∀ r, Ends kd r → nextJ (text ++ r) = some (kd, text.length, tru, str)
  head : ∃ c l, text = c :: l ∧ wsC c = false
theorem lexed_quoted (ps : List UInt8) (k : Nat) (t : List UInt8) (hv : utf8V t = true) : Lexed 16 t false (quotedJ ps k t) := by
  obtain ⟨X, hX⟩ := quotedJ_head ps k t
  refine ⟨fun r _ => ?_, 34, X, hX, by decide⟩
  have hs := strJ_quoted ps k t r hv
  rw [hX] at hs ⊢
  rw [List.cons_append] at hs ⊢
  rw [nextJ_cons, if_neg (by decide), if_neg (by decide), if_neg (by decide), if_neg (by decide), if_pos (by decide), hs]
theorem numberJ_head (ps : List UInt8) (k : Nat) (t : List UInt8) : ∃ c l, numberJ ps k t = c :: l ∧ (c.toNat = 45 ∨ isDg c = true) := by
  unfold numberJ
  rw [List.append_assoc, List.append_assoc]
  rcases signT_form (pickV ps k 2) with h | h
  · rw [h]; exact ⟨45, _, rfl, .inl (by decide)⟩
  · rw [h, List.nil_append]
    obtain ⟨c, m, hb, h1, h2⟩ := bodyJ_head t ((fracJ ps (pickK ps k)).1 ++ (expJ ps (fracJ ps (pickK ps k)).2).1)
    exact ⟨c, m, hb, .inr (by unfold isDg; simp; omega)⟩
theorem lexed_number (ps : List UInt8) (k : Nat) (t : List UInt8) : Lexed 8 [] false (numberJ ps k t) := by
  obtain ⟨c, l, hX, hc⟩ := numberJ_head ps k t
  have hc' : c.toNat = 45 ∨ 48 ≤ c.toNat ∧ c.toNat ≤ 57 := by rcases hc with h | h; exact .inl h; (unfold isDg at h; simp at h; exact .inr h)
  refine ⟨fun r hr => ?_, c, l, hX, by unfold wsC; simp; omega⟩
  have hs := numJ_written ps k t r (hr.delim (by decide))
  rw [hX] at hs ⊢
  rw [List.cons_append] at hs ⊢
  rw [nextJ_cons, if_neg (by omega), if_neg (by omega), if_neg (by omega), if_pos hc, hs]
theorem wordD_written (s r : List UInt8) (hr : Delim r) : wordD s (s ++ r) = true := by
  unfold wordD
  rw [List.drop_left, Bool.and_eq_true]
  refine ⟨List.isPrefixOf_iff_prefix.2 ⟨r, rfl⟩, ?_⟩
  match r, hr with
  | [], _ => rfl
  | c :: l, hr => simp [hr c l rfl]
theorem lexed_null : Lexed 2 [] false [110, 117, 108, 108] := by
  refine ⟨fun r hr => ?_, _, _, rfl, by decide⟩
  have := wordD_written [110, 117, 108, 108] r (hr.delim (by decide))
  simp only [List.cons_append, List.nil_append] at this ⊢
  rw [nextJ_cons, if_pos (by decide), this]; rfl
theorem lexed_true : Lexed 4 [] true [116, 114, 117, 101] := by
  refine ⟨fun r hr => ?_, _, _, rfl, by decide⟩
  have := wordD_written [116, 114, 117, 101] r (hr.delim (by decide))
  simp only [List.cons_append, List.nil_append] at this ⊢
  rw [nextJ_cons, if_neg (by decide), if_pos (by decide), this]; rfl
theorem lexed_false : Lexed 4 [] false [102, 97, 108, 115, 101] := by
  refine ⟨fun r hr => ?_, _, _, rfl, by decide⟩
  have := wordD_written [102, 97, 108, 115, 101] r (hr.delim (by decide))
  simp only [List.cons_append, List.nil_append] at this ⊢
  rw [nextJ_cons, if_neg (by decide), if_neg (by decide), if_pos (by decide), this]; rfl
theorem lexed_open : Lexed 64 [] false [123] := ⟨fun r _ => by rw [List.cons_append, nextJ_cons]; rfl, _, _, rfl, by decide⟩
theorem lexed_close : Lexed 128 [] false [125] := ⟨fun r _ => by rw [List.cons_append, nextJ_cons]; rfl, _, _, rfl, by decide⟩
theorem lexed_list : Lexed 256 [] false [91] := ⟨fun r _ => by rw [List.cons_append, nextJ_cons]; rfl, _, _, rfl, by decide⟩
theorem lexed_listEnd : Lexed 512 [] false [93] := ⟨fun r _ => by rw [List.cons_append, nextJ_cons]; rfl, _, _, rfl, by decide⟩
theorem lexed_comma : Lexed 1024 [] false [44] := ⟨fun r _ => by rw [List.cons_append, nextJ_cons]; rfl, _, _, rfl, by decide⟩
theorem delim_space {q : Nat} {c : UInt8} {r : List UInt8} (h : notDel c = false) : Delim (spaceT q ++ c :: r) := by
  unfold spaceT
  split <;> exact Delim.cons (by first | exact h | decide)
theorem delim_spaces (q : Nat) : Delim (spaceT q) := by
  unfold spaceT
  split <;> first | exact Delim.nil | exact Delim.cons (by decide)
end Go.Proofs.YtjkmmhnhhiopiaaDoor

namespace Go.Proofs.YtjkmmhnhhiopiaaDoor

/-! ### white space -/
theorem wsN_space (n : Nat) (l : List UInt8) : wsN (spaceT n ++ l) = (spaceT n).length + wsN l := by
  unfold spaceT
  split <;> simp [wsN, wsC] <;> omega
theorem wsN_head {c : UInt8} {l : List UInt8} (h : wsC c = false) : wsN (c :: l) = 0 := by rw [wsN_cons, h]; rfl
theorem wsN_drop : ∀ l : List UInt8, wsN (l.drop (wsN l)) = 0
  | [] => rfl
  | c :: l => by
    cases h : wsC c with
    | false => rw [wsN_head h, List.drop_zero, wsN_head h]
    | true => rw [wsN_cons, h, if_pos rfl, List.drop_succ_cons, wsN_drop l]
theorem goN_zero (bs : List UInt8) (n : Nat) : goN bs n 0 = n + wsN (bs.drop n) := by unfold goN; rw [Nat.add_zero]
theorem goN_addF (bs : List UInt8) (n m : Nat) : goN bs n m = goN bs (n + m) 0 := by unfold goN; rw [Nat.add_zero]
theorem goN_idem (bs : List UInt8) (n : Nat) : goN bs (goN bs n 0) 0 = goN bs n 0 := by
  rw [goN_zero bs (goN bs n 0)]
  rw [goN_zero, ← List.drop_drop, wsN_drop, Nat.add_zero]
/-- behind what was written so far, and a blank: where the next token begins -/
theorem goN_text {pre sp text r bs : List UInt8} {q : Nat} (hb : bs = pre ++ (sp ++ (text ++ r))) (hs : sp = spaceT q) (ht : ∃ c l, text = c :: l ∧ wsC c = false) : goN bs pre.length 0 = pre.length + sp.length ∧ bs.drop (pre.length + sp.length) = text ++ r := by
  obtain ⟨c, l, rfl, hc⟩ := ht
  have hd : bs.drop pre.length = sp ++ ((c :: l) ++ r) := by rw [hb]; exact List.drop_left
  refine ⟨?_, by rw [← List.drop_drop, hd]; exact List.drop_left⟩
  rw [goN_zero, hd, hs, wsN_space, List.cons_append, wsN_head hc]
  rfl

/-! ### Read, step by step -/
/-- Reads, one behind the other: their tokens, but for the commas -/
inductive Chain (bs : List UInt8) : DS → List TK → DS → Prop
  | nil (s : DS) : Chain bs s [] s
  | tok {s s1 t : DS} {l : List TK} : readC bs s = (s1, true) → s1.tok.kind ≠ 1024 → s1.tok.kind ≠ 1 → Chain bs s1 l t → Chain bs s (s1.tok :: l) t
  | comma {s s1 t : DS} {l : List TK} : readC bs s = (s1, true) → s1.tok.kind = 1024 → Chain bs s1 l t → Chain bs s l t
theorem Chain.trans {bs : List UInt8} {s t u : DS} {l m : List TK} (h : Chain bs s l t) (k : Chain bs t m u) : Chain bs s (l ++ m) u := by
  induction h with
  | nil s => exact k
  | tok h1 h2 h3 _ ih => exact .tok h1 h2 h3 (ih k)
  | comma h1 h2 _ ih => exact .comma h1 h2 (ih k)
theorem Chain.facts {bs : List UInt8} {s t : DS} {l : List TK} (h : Chain bs s l t) (hk : s.k ≤ bs.length) : t.bad = s.bad ∧ t.k ≤ bs.length ∧ s.k + l.length ≤ t.k ∧ (s.peeked = false → t.peeked = false) := by
  induction h with
  | nil s => exact ⟨rfl, hk, by simp, fun h => h⟩
  | tok h1 h2 h3 _ ih =>
    have ho := readC_ok h1 hk
    have := ih ho.2.2.1
    refine ⟨this.1.trans ho.2.1, this.2.1, ?_, fun _ => this.2.2.2 ho.1⟩
    have := ho.2.2.2.2.1 h3
    simp only [List.length_cons]; omega
  | comma h1 h2 _ ih =>
    have ho := readC_ok h1 hk
    have := ih ho.2.2.1
    exact ⟨this.1.trans ho.2.1, this.2.1, by omega, fun _ => this.2.2.2 ho.1⟩
theorem runJ_step {bs : List UInt8} {f : Nat} {s : DS} {out : List TK} : runJ bs [] (f + 1) s out = match readJ bs s with
    | (_, false) => (out, false)
    | (s', true) => if s'.tok.kind = 1 then (out, true) else runJ bs [] f s' (out ++ [s'.tok]) := by
  rw [runJ]; simp only [List.getD_nil, Bool.false_eq_true, if_false]; rfl
/-- the reader's run goes over such a chain -/
theorem Chain.run {bs : List UInt8} {s t : DS} {l : List TK} (h : Chain bs s l t) : t.tok.kind ≠ 1024 → s.peeked = false → s.k ≤ bs.length → ∀ (f : Nat) (out : List TK),
    (s.tok.kind ≠ 1024 → runJ bs [] (f + l.length) s out = runJ bs [] f t (out ++ l)) ∧
    (s.tok.kind = 1024 → ∀ s0, s0.peeked = false → readC bs s0 = (s, true) → runJ bs [] (f + l.length) s0 out = runJ bs [] f t (out ++ l)) := by
  induction h with
  | nil s => intro ht _ _ f out; exact ⟨fun _ => by simp, fun h => absurd h ht⟩
  | @tok s s1 t l h1 h2 h3 _ ih =>
    intro ht hp hk f out
    have ho := readC_ok h1 hk
    have ih' := fun out => (ih ht ho.1 ho.2.2.1 f out).1 h2
    have e : f + (s1.tok :: l).length = f + l.length + 1 := by simp only [List.length_cons]; omega
    have e2 : out ++ s1.tok :: l = (out ++ [s1.tok]) ++ l := by simp
    refine ⟨fun _ => ?_, fun hc s0 hp0 h0 => ?_⟩
    · rw [e, runJ_step, readJ_plain hp]
      unfold readF
      rw [h1]
      simp only
      rw [if_neg h2]
      simp only
      rw [if_neg h3, ih', e2]
    · rw [e, runJ_step, readJ_plain hp0]
      unfold readF
      rw [h0]
      simp only
      rw [if_pos hc, h1]
      simp only
      rw [if_neg h3, ih', e2]
  | @comma s s1 t l h1 h2 _ ih =>
    intro ht hp hk f out
    have ho := readC_ok h1 hk
    refine ⟨fun _ => (ih ht ho.1 ho.2.2.1 f out).2 h2 s hp h1, fun hc => ?_⟩
    exact absurd h2 (ho.2.2.2.2.2 hc)

/-! ### the states -/
/-- the reader stands behind n bytes (or behind the white space that follows): so much is open, and this was the last token -/
structure At (bs : List UInt8) (n : Nat) (st : List Nat) (last : Nat) (s : DS) : Prop where
  peeked : s.peeked = false
  bad : s.bad = false
  st : s.st = st
  last : s.tok.kind = last
  le : s.k ≤ bs.length
  pos : goN bs s.k 0 = goN bs n 0
def toTK (t : JT) : TK := ⟨t.kind, t.pos, t.raw, t.tru, t.str⟩
def ValEnd (n : Nat) : Prop := n = 2 ∨ n = 4 ∨ n = 8 ∨ n = 16 ∨ n = 128 ∨ n = 512

section
variable {bs : List UInt8} {ps : List UInt8}
/-- what all kinds of tokens share -/
theorem readC_at {s : DS} {st : List Nat} {last kd q : Nat} {str : List UInt8} {tru : Bool} {pre text r : List UInt8} (h : At bs pre.length st last s) (hx : Lexed kd str tru text) (hr : Ends kd r) (hb : bs = pre ++ (spaceT q ++ (text ++ r))) :
    goN bs s.k 0 = pre.length + (spaceT q).length ∧ nextJ (bs.drop (goN bs s.k 0)) = some (kd, text.length, tru, str) ∧ (bs.drop (goN bs s.k 0)).take text.length = text ∧
      goN bs (goN bs s.k 0) text.length = goN bs (pre ++ spaceT q ++ text).length 0 ∧ goN bs (goN bs s.k 0) text.length ≤ bs.length := by
  obtain ⟨h1, h2⟩ := goN_text hb rfl hx.head
  have h3 := h.pos.trans h1
  rw [h3, h2]
  have hl : pre.length + (spaceT q).length + text.length ≤ bs.length := by rw [hb]; simp only [List.length_append]; omega
  exact ⟨rfl, hx.next r hr, List.take_left, by rw [goN_addF]; simp only [List.length_append], (goN_le hl).2⟩
theorem at_mk {n k : Nat} {st : List Nat} {kd : Nat} {tok : TK} {b : Bool} (hk : k = goN bs n 0) (hl : k ≤ bs.length) (hkd : tok.kind = kd) (hb : b = false) : At bs n st kd ⟨false, tok, b, st, k⟩ :=
  ⟨rfl, hb, rfl, hkd, hl, by show goN bs k 0 = _; rw [hk]; exact goN_idem bs n⟩
/-- a value of one token -/
theorem read_leaf {s : DS} {st : List Nat} {last kd q : Nat} {str : List UInt8} {tru : Bool} {pre text r : List UInt8} (h : At bs pre.length st last s) (hx : Lexed kd str tru text) (hr : Ends kd r) (hb : bs = pre ++ (spaceT q ++ (text ++ r)))
    (hv : valN st last = true) (hk : kd = 2 ∨ kd = 4 ∨ kd = 8 ∨ kd = 16) : ∃ s1, readC bs s = (s1, true) ∧ s1.tok = ⟨kd, pre.length + (spaceT q).length, text, tru, str⟩ ∧ At bs (pre ++ spaceT q ++ text).length st kd s1 := by
  obtain ⟨h1, h2, h3, h4, h5⟩ := readC_at h hx hr hb
  unfold readC
  simp only
  rw [h2]
  simp only
  rw [h.st, h.last, hv, h3, h1] 
  rw [h1] at h4 h5
  by_cases h16 : kd = 16
  · rw [if_neg (by omega), if_neg (by omega), if_pos h16, if_pos rfl]
    exact ⟨_, rfl, rfl, at_mk h4 h5 rfl h.bad⟩
  · rw [if_neg (by omega), if_pos (by omega), if_pos rfl]
    exact ⟨_, rfl, rfl, at_mk h4 h5 rfl h.bad⟩
theorem read_openT {s : DS} {st : List Nat} {last kd q : Nat} {pre text r : List UInt8} (h : At bs pre.length st last s) (hx : Lexed kd [] false text) (hb : bs = pre ++ (spaceT q ++ (text ++ r)))
    (hv : valN st last = true) (hk : kd = 64 ∨ kd = 256) : ∃ s1, readC bs s = (s1, true) ∧ s1.tok = ⟨kd, pre.length + (spaceT q).length, text, false, []⟩ ∧ At bs (pre ++ spaceT q ++ text).length (st ++ [kd]) kd s1 := by
  obtain ⟨h1, h2, h3, h4, h5⟩ := readC_at h hx (.inl (by omega)) hb
  unfold readC
  simp only
  rw [h2]
  simp only
  rw [h.st, h.last, hv, h3, h1]
  rw [h1] at h4 h5
  rw [if_neg (by omega), if_neg (by omega), if_neg (by omega), if_pos hk, if_pos rfl]
  exact ⟨_, rfl, rfl, at_mk h4 h5 rfl h.bad⟩
theorem read_closeO {s : DS} {st : List Nat} {last q : Nat} {pre text r : List UInt8} (h : At bs pre.length (st ++ [64]) last s) (hx : Lexed 128 [] false text) (hb : bs = pre ++ (spaceT q ++ (text ++ r)))
    (hl : last ≠ 32 ∧ last ≠ 1024) : ∃ s1, readC bs s = (s1, true) ∧ s1.tok = ⟨128, pre.length + (spaceT q).length, text, false, []⟩ ∧ At bs (pre ++ spaceT q ++ text).length st 128 s1 := by
  obtain ⟨h1, h2, h3, h4, h5⟩ := readC_at h hx (.inl (by decide)) hb
  unfold readC
  simp only
  rw [h2]
  simp only
  rw [h.st, h.last, h3, h1]
  rw [h1] at h4 h5
  rw [if_neg (by decide), if_neg (by decide), if_neg (by decide), if_neg (by decide), if_pos trivial, if_pos ⟨by simp, hl.1, hl.2⟩]
  simp only [List.dropLast_concat]
  exact ⟨_, rfl, rfl, at_mk h4 h5 rfl h.bad⟩
theorem read_closeL {s : DS} {st : List Nat} {last q : Nat} {pre text r : List UInt8} (h : At bs pre.length (st ++ [256]) last s) (hx : Lexed 512 [] false text) (hb : bs = pre ++ (spaceT q ++ (text ++ r)))
    (hl : last ≠ 1024) : ∃ s1, readC bs s = (s1, true) ∧ s1.tok = ⟨512, pre.length + (spaceT q).length, text, false, []⟩ ∧ At bs (pre ++ spaceT q ++ text).length st 512 s1 := by
  obtain ⟨h1, h2, h3, h4, h5⟩ := readC_at h hx (.inl (by decide)) hb
  unfold readC
  simp only
  rw [h2]
  simp only
  rw [h.st, h.last, h3, h1]
  rw [h1] at h4 h5
  rw [if_neg (by decide), if_neg (by decide), if_neg (by decide), if_neg (by decide), if_neg (by decide), if_pos trivial, if_pos ⟨by simp, hl⟩]
  simp only [List.dropLast_concat]
  exact ⟨_, rfl, rfl, at_mk h4 h5 rfl h.bad⟩
theorem read_commaT {s : DS} {st : List Nat} {last q : Nat} {pre r : List UInt8} (h : At bs pre.length st last s) (hb : bs = pre ++ (spaceT q ++ ([44] ++ r)))
    (hs : st ≠ []) (hl : ValEnd last) : ∃ s1, readC bs s = (s1, true) ∧ s1.tok.kind = 1024 ∧ At bs (pre ++ spaceT q ++ [44]).length st 1024 s1 := by
  obtain ⟨h1, h2, h3, h4, h5⟩ := readC_at h lexed_comma (.inl (by decide)) hb
  unfold readC
  simp only
  rw [h2]
  simp only
  rw [h.st, h.last, h3, h1]
  rw [h1] at h4 h5
  rw [if_neg (by decide), if_neg (by decide), if_neg (by decide), if_neg (by decide), if_neg (by decide), if_neg (by decide), if_pos ⟨hs, hl⟩]
  exact ⟨_, rfl, rfl, at_mk h4 h5 rfl h.bad⟩
/-- a name and its colon -/
theorem read_nameT {s : DS} {st : List Nat} {last q q2 : Nat} {str pre text r : List UInt8} (h : At bs pre.length (st ++ [64]) last s) (hx : Lexed 16 str false text) (hb : bs = pre ++ (spaceT q ++ (text ++ (spaceT q2 ++ ([58] ++ r)))))
    (hl : last = 64 ∨ last = 1024) : ∃ s1, readC bs s = (s1, true) ∧ s1.tok = ⟨32, pre.length + (spaceT q).length, text, false, str⟩ ∧ At bs (pre ++ spaceT q ++ text ++ spaceT q2 ++ [58]).length (st ++ [64]) 32 s1 := by
  obtain ⟨h1, h2, h3, h4, h5⟩ := readC_at h hx (.inr (delim_space (by decide))) hb
  have hb2 : bs = (pre ++ spaceT q ++ text) ++ (spaceT q2 ++ ([58] ++ r)) := by rw [hb]; simp only [List.append_assoc]
  obtain ⟨g1, g2⟩ := goN_text hb2 rfl ⟨58, [], rfl, by decide⟩
  have hv : valN (st ++ [64]) last = false := by unfold valN; simp; omega
  unfold readC
  simp only
  rw [h2]
  simp only
  rw [h.st, h.last, hv, h3, h1]
  rw [h1] at h4 h5
  have hd : bs.drop (goN bs (pre.length + (spaceT q).length) text.length) = 58 :: r := by rw [h4, g1, g2]; rfl
  rw [if_neg (by decide), if_neg (by decide), if_pos trivial, if_neg (by decide), if_pos hl, hd]
  simp only
  rw [if_pos (by decide)]
  have hle : goN bs (pre.length + (spaceT q).length) text.length + 1 ≤ bs.length := by have := congrArg List.length hd; simp only [List.length_drop, List.length_cons] at this; omega
  refine ⟨_, rfl, rfl, ⟨rfl, h.bad, rfl, rfl, (goN_le hle).2, ?_⟩⟩
  show goN bs (goN bs _ 1) 0 = _
  rw [goN_addF bs _ 1, goN_idem, h4, g1]
  congr 1
  simp only [List.length_append, List.length_cons, List.length_nil]
end
end Go.Proofs.YtjkmmhnhhiopiaaDoor

namespace Go.Proofs.YtjkmmhnhhiopiaaDoor

variable {bs : List UInt8} {ps : List UInt8}
/-! ### what the writer appends -/
def Appends (f : JS → JS) : Prop := ∀ s, ∃ X Y, (f s).b = s.b ++ X ∧ (f s).l = s.l ++ Y
theorem appends_space (s : JS) : ∃ X Y, (spaceJ ps s).b = s.b ++ X ∧ (spaceJ ps s).l = s.l ++ Y := ⟨_, [], rfl, by simp [spaceJ]⟩
theorem appends_comma (i : Nat) (s : JS) : ∃ X Y, (commaJ ps i s).b = s.b ++ X ∧ (commaJ ps i s).l = s.l ++ Y := by
  unfold commaJ; split
  · exact ⟨spaceT (pickV ps s.k 8) ++ [44], [], by simp [byteJ, spaceJ], by simp [byteJ, spaceJ]⟩
  · exact ⟨[], [], by simp, by simp⟩
theorem appends_token (kd : Nat) (str : List UInt8) (tru : Bool) (text : List UInt8) (s : JS) : ∃ X Y, (tokenJ ps kd str tru text s).b = s.b ++ X ∧ (tokenJ ps kd str tru text s).l = s.l ++ Y :=
  ⟨spaceT (pickV ps s.k 8) ++ text, _, by simp [tokenJ, putJ, spaceJ], rfl⟩
theorem appends_name (nm : List UInt8) (s : JS) : ∃ X Y, (nameJ ps nm s).b = s.b ++ X ∧ (nameJ ps nm s).l = s.l ++ Y := by
  unfold nameJ colonJ byteJ
  exact ⟨spaceT (pickV ps (quotedK ps s.k nm) 8) ++ quotedJ ps s.k nm ++ spaceT (pickV ps (tokenJ ps 32 nm false (quotedJ ps s.k nm) { s with k := quotedK ps s.k nm }).k 8) ++ [58], _, by simp [tokenJ, putJ, spaceJ], rfl⟩
theorem app_comp {s t u : JS} (h : ∃ X Y, t.b = s.b ++ X ∧ t.l = s.l ++ Y) (g : ∃ X Y, u.b = t.b ++ X ∧ u.l = t.l ++ Y) : ∃ X Y, u.b = s.b ++ X ∧ u.l = s.l ++ Y := by
  obtain ⟨X, Y, h1, h2⟩ := h
  obtain ⟨X', Y', g1, g2⟩ := g
  exact ⟨X ++ X', Y ++ Y', by rw [g1, h1, List.append_assoc], by rw [g2, h2, List.append_assoc]⟩
theorem appends_parts (f : JI → JS → JS) (hf : ∀ x, Appends (f x)) : ∀ (i : Nat) (l : List JI), Appends (partsJ ps f i l)
  | i, [], s => ⟨[], [], by simp [partsJ], by simp [partsJ]⟩
  | i, x :: l, s => app_comp (app_comp (appends_comma (ps := ps) i s) (hf x _)) (appends_parts f hf (i + 1) l _)
theorem appends_value : ∀ (d : Nat) (x : JI), Appends (valueJ ps d x)
  | 0, x, s => ⟨[], [], by simp [valueJ], by simp [valueJ]⟩
  | d + 1, .mk k nm t kids, s => by
    have ih := appends_value d
    unfold valueJ
    split
    · exact appends_token _ _ _ _ s
    · split
      · exact appends_token _ _ _ _ s
      · split
        · exact appends_token _ _ _ _ s
        · split
          · exact appends_token _ _ _ _ { s with k := numberK ps s.k }
          · split
            · exact appends_token _ _ _ _ { s with k := quotedK ps s.k t }
            · split
              · exact app_comp (app_comp (appends_token _ _ _ _ s) (appends_parts _ ih 0 kids _)) (appends_token _ _ _ _ _)
              · exact app_comp (app_comp (appends_token _ _ _ _ s) (appends_parts _ (fun x s => app_comp (appends_name x.name s) (ih x _)) 0 kids _)) (appends_token _ _ _ _ _)

/-! ### read back -/
/-- from here to there the reader reads just what was written -/
def ReadsJ (bs : List UInt8) (st : List Nat) (last : Nat) (E : Nat → Prop) (s t : JS) : Prop :=
  ∀ a, At bs s.b.length st last a → ∃ a' Y last', Chain bs a (Y.map toTK) a' ∧ t.l = s.l ++ Y ∧ At bs t.b.length st last' a' ∧ E last'
theorem toTK_at (kd : Nat) (str : List UInt8) (tru : Bool) (text : List UInt8) (s : JS) (q : Nat) : toTK ⟨kd, (s.b ++ spaceT q).length, text, str, tru⟩ = ⟨kd, s.b.length + (spaceT q).length, text, tru, str⟩ := by simp [toTK]
theorem Chain.one {a a' : DS} {t : TK} (h : readC bs a = (a', true)) (ht : a'.tok = t) (h1 : t.kind ≠ 1024) (h2 : t.kind ≠ 1) : Chain bs a [t] a' := by
  subst ht
  exact .tok h h1 h2 (.nil _)
theorem tok_b (kd : Nat) (str : List UInt8) (tru : Bool) (text r : List UInt8) (s : JS) : (tokenJ ps kd str tru text s).b ++ r = s.b ++ (spaceT (pickV ps s.k 8) ++ (text ++ r)) := by simp [tokenJ, putJ, spaceJ]
theorem reads_leaf {kd last : Nat} {str : List UInt8} {tru : Bool} {text r : List UInt8} {s : JS} {st : List Nat} (hx : Lexed kd str tru text) (hr : Delim r) (hb : bs = (tokenJ ps kd str tru text s).b ++ r) (hv : valN st last = true) (hk : kd = 2 ∨ kd = 4 ∨ kd = 8 ∨ kd = 16) :
    ReadsJ bs st last ValEnd s (tokenJ ps kd str tru text s) := by
  intro a ha
  obtain ⟨a', h1, h2, h3⟩ := read_leaf ha hx (.inr hr) (hb.trans (tok_b ..)) hv hk
  refine ⟨a', [⟨kd, (s.b ++ spaceT (pickV ps s.k 8)).length, text, str, tru⟩], kd, ?_, rfl, h3, by unfold ValEnd; omega⟩
  rw [List.map_cons, List.map_nil, toTK_at]
  exact Chain.one h1 h2 (by show kd ≠ 1024; omega) (by show kd ≠ 1; omega)
theorem reads_name {last : Nat} {r : List UInt8} {nm : List UInt8} {s : JS} {st : List Nat} (hv : utf8V nm = true) (hb : bs = (nameJ ps nm s).b ++ r) (hl : last = 64 ∨ last = 1024) : ReadsJ bs (st ++ [64]) last (· = 32) s (nameJ ps nm s) := by
  intro a ha
  have hx := lexed_quoted ps s.k nm hv
  obtain ⟨q, q2, e1, e2⟩ : ∃ q q2, (nameJ ps nm s).b = s.b ++ spaceT q ++ quotedJ ps s.k nm ++ spaceT q2 ++ [58] ∧ (nameJ ps nm s).l = s.l ++ [⟨32, (s.b ++ spaceT q).length, quotedJ ps s.k nm, nm, false⟩] := ⟨_, _, rfl, rfl⟩
  obtain ⟨a', h1, h2, h3⟩ := read_nameT (q := q) (q2 := q2) (r := r) ha hx (hb.trans (by rw [e1]; simp only [List.append_assoc])) hl
  refine ⟨a', _, 32, ?_, e2, by rw [e1]; exact h3, rfl⟩
  rw [List.map_cons, List.map_nil, toTK_at]
  exact Chain.one h1 h2 (by simp) (by simp)
theorem comma_b (i : Nat) (s : JS) (h : 0 < i) : (commaJ ps i s).b = s.b ++ spaceT (pickV ps s.k 8) ++ [44] ∧ (commaJ ps i s).l = s.l := by unfold commaJ; rw [if_pos h]; exact ⟨rfl, rfl⟩
/-- parts: what holds of one holds of all -/
theorem reads_parts (f : JI → JS → JS) (hf : ∀ x, Appends (f x)) (open_ : Nat) (st : List Nat) (first : Nat → Prop) (h0 : first open_) (h1 : first 1024) : ∀ (l : List JI) (i : Nat) (s : JS) (last : Nat) (r : List UInt8),
    (∀ x ∈ l, ∀ (s : JS) (last : Nat) (r : List UInt8), first last → Delim r → bs = (f x s).b ++ r → ReadsJ bs (st ++ [open_]) last ValEnd s (f x s)) →
    (i = 0 ∧ last = open_ ∨ 0 < i ∧ ValEnd last) → Delim r → bs = (partsJ ps f i l s).b ++ r → ReadsJ bs (st ++ [open_]) last (fun n => n = open_ ∨ ValEnd n) s (partsJ ps f i l s)
  | [], i, s, last, r, _, hi, _, _ => fun a ha => ⟨a, [], last, .nil a, by simp [partsJ], ha, by rcases hi with h | h; exact .inl h.2; exact .inr h.2⟩
  | x :: l, i, s, last, r, hx, hi, hr, hb => by
    intro a ha
    obtain ⟨X, Y0, hX, _⟩ := appends_parts (ps := ps) f hf (i + 1) l (f x (commaJ ps i s))
    -- what stands behind the part ends it
    have hd : Delim (X ++ r) := by
      cases l with
      | nil =>
        have : X = [] := by unfold partsJ at hX; exact List.append_right_eq_self.1 hX.symm
        rw [this]; exact hr
      | cons y l =>
        obtain ⟨Z, _, hZ, _⟩ := app_comp (hf y (commaJ ps (i + 1) (f x (commaJ ps i s)))) (appends_parts (ps := ps) f hf (i + 2) l _)
        have e : X = spaceT (pickV ps (f x (commaJ ps i s)).k 8) ++ 44 :: Z := by
          have e1 : (partsJ ps f (i + 1) (y :: l) (f x (commaJ ps i s))).b = (partsJ ps f (i + 2) l (f y (commaJ ps (i + 1) (f x (commaJ ps i s))))).b := rfl
          rw [e1, hZ, (comma_b (i + 1) _ (Nat.succ_pos i)).1] at hX
          simp only [List.append_assoc, List.append_cancel_left_eq] at hX
          rw [← hX]; rfl
        rw [e, List.append_assoc]
        exact delim_space (by decide)
    have hb1 : bs = (f x (commaJ ps i s)).b ++ (X ++ r) := by
      rw [hb]
      show (partsJ ps f (i + 1) l (f x (commaJ ps i s))).b ++ r = _
      rw [hX, List.append_assoc]
    -- the comma
    obtain ⟨a1, last1, c1, A1, F1, L1⟩ : ∃ a1 last1, Chain bs a [] a1 ∧ At bs (commaJ ps i s).b.length (st ++ [open_]) last1 a1 ∧ first last1 ∧ (commaJ ps i s).l = s.l := by
      rcases hi with ⟨rfl, rfl⟩ | ⟨hi, hv⟩
      · exact ⟨a, _, .nil a, ha, h0, rfl⟩
      · obtain ⟨e1, e2⟩ := comma_b (ps := ps) i s hi
        obtain ⟨W, _, hW, _⟩ := hf x (commaJ ps i s)
        obtain ⟨a1, g1, g2, g3⟩ := read_commaT (q := pickV ps s.k 8) (pre := s.b) (r := W ++ (X ++ r)) ha (by rw [hb1, hW, e1]; simp only [List.append_assoc]) (by simp) hv
        exact ⟨a1, 1024, .comma g1 g2 (.nil _), by rw [e1]; exact g3, h1, e2⟩
    obtain ⟨a2, Y2, last2, c2, L2, A2, V2⟩ := hx x (by simp) (commaJ ps i s) last1 (X ++ r) F1 hd hb1 a1 A1
    obtain ⟨a3, Y3, last3, c3, L3, A3, V3⟩ := reads_parts f hf open_ st first h0 h1 l (i + 1) (f x (commaJ ps i s)) last2 r (fun y hy => hx y (by simp [hy])) (.inr ⟨Nat.succ_pos i, V2⟩) hr hb a2 A2
    refine ⟨a3, Y2 ++ Y3, last3, ?_, ?_, A3, V3⟩
    · rw [List.map_append]
      exact (c1.trans c2).trans c3
    · show (partsJ ps f (i + 1) l (f x (commaJ ps i s))).l = _
      rw [L3, L2, L1, List.append_assoc]
/-- a value -/
theorem reads_value : ∀ (d : Nat) (x : JI) (s : JS) (st : List Nat) (last : Nat) (r : List UInt8), weightN d x ≤ 200 → valN st last = true → Delim r → bs = (valueJ ps d x s).b ++ r → ReadsJ bs st last ValEnd s (valueJ ps d x s) := by
  intro d
  induction d with
  | zero => intro x s st last r h; simp [weightN] at h
  | succ d ih =>
    intro x s st last r h hv hr hb
    have hp := weightN_parts h
    have hk := fun y hy => weightN_kid (y := y) h hy
    obtain ⟨k, nm, t, kids⟩ := x
    obtain ⟨_, _, _, hu, _⟩ := hp
    simp only [JI.s, JI.kids] at hu hk
    unfold valueJ at hb ⊢
    by_cases h0 : k % 7 = 0
    · rw [if_pos h0] at hb ⊢; exact reads_leaf lexed_null hr hb hv (by decide)
    · rw [if_neg h0] at hb ⊢
      by_cases h1 : k % 7 = 1
      · rw [if_pos h1] at hb ⊢; exact reads_leaf lexed_false hr hb hv (by decide)
      · rw [if_neg h1] at hb ⊢
        by_cases h2 : k % 7 = 2
        · rw [if_pos h2] at hb ⊢; exact reads_leaf lexed_true hr hb hv (by decide)
        · rw [if_neg h2] at hb ⊢
          by_cases h3 : k % 7 = 3
          · rw [if_pos h3] at hb ⊢; exact reads_leaf (s := { s with k := numberK ps s.k }) (lexed_number ps s.k t) hr hb hv (by decide)
          · rw [if_neg h3] at hb ⊢
            by_cases h4 : k % 7 = 4
            · rw [if_pos h4] at hb ⊢; exact reads_leaf (s := { s with k := quotedK ps s.k t }) (lexed_quoted ps s.k t hu) hr hb hv (by decide)
            · rw [if_neg h4] at hb ⊢
              by_cases h5 : k % 7 = 5
              · rw [if_pos h5] at hb ⊢
                intro a ha
                generalize hs1 : tokenJ ps 256 [] false [91] s = s1 at hb ⊢
                generalize hs2 : partsJ ps (valueJ ps d) 0 kids s1 = s2 at hb ⊢
                obtain ⟨X, _, hX, _⟩ := appends_parts (ps := ps) (valueJ ps d) (appends_value d) 0 kids s1
                rw [hs2] at hX
                have e3 := tok_b (ps := ps) 512 [] false [93] r s2
                have hb2 : bs = s2.b ++ (spaceT (pickV ps s2.k 8) ++ ([93] ++ r)) := hb.trans e3
                have hb1 : bs = s.b ++ (spaceT (pickV ps s.k 8) ++ ([91] ++ (X ++ (spaceT (pickV ps s2.k 8) ++ ([93] ++ r))))) := by
                  rw [hb2, hX, ← hs1, List.append_assoc, tok_b]
                obtain ⟨a1, g1, g2, g3⟩ := read_openT ha lexed_list hb1 hv (.inr rfl)
                have A1 : At bs s1.b.length (st ++ [256]) 256 a1 := by rw [← hs1]; exact g3
                obtain ⟨a2, Y2, last2, c2, L2, A2, V2⟩ := reads_parts (ps := ps) (bs := bs) (valueJ ps d) (appends_value d) 256 st (fun n => n = 256 ∨ n = 1024) (.inl rfl) (.inr rfl) kids 0 s1 256 (spaceT (pickV ps s2.k 8) ++ ([93] ++ r))
                  (fun x hx s last r hl hr hb => ih x s (st ++ [256]) last r (hk x hx).1 (by unfold valN; simp; omega) hr hb) (.inl ⟨rfl, rfl⟩) (delim_space (by decide)) (by rw [hs2]; exact hb2) a1 A1
                rw [hs2] at L2 A2
                obtain ⟨a3, f1, f2, f3⟩ := read_closeL A2 lexed_listEnd hb2 (by unfold ValEnd at V2; omega)
                refine ⟨a3, ⟨256, (s.b ++ spaceT (pickV ps s.k 8)).length, [91], [], false⟩ :: (Y2 ++ [⟨512, (s2.b ++ spaceT (pickV ps s2.k 8)).length, [93], [], false⟩]), 512, ?_, ?_, f3, by unfold ValEnd; omega⟩
                · rw [List.map_cons, List.map_append, List.map_cons, List.map_nil, toTK_at, toTK_at]
                  exact (Chain.one g1 g2 (by simp) (by simp)).trans (c2.trans (Chain.one f1 f2 (by simp) (by simp)))
                · show s2.l ++ [_] = _
                  rw [L2, ← hs1]
                  show (s.l ++ [_]) ++ Y2 ++ [_] = _
                  simp only [List.append_assoc, List.cons_append, List.nil_append]
                  rfl
              · rw [if_neg h5] at hb ⊢
                intro a ha
                have hf : ∀ x, Appends (fieldJ ps (valueJ ps d) x) := fun x s => app_comp (appends_name x.name s) (appends_value d x _)
                generalize hs1 : tokenJ ps 64 [] false [123] s = s1 at hb ⊢
                generalize hs2 : partsJ ps (fieldJ ps (valueJ ps d)) 0 kids s1 = s2 at hb ⊢
                obtain ⟨X, _, hX, _⟩ := appends_parts (ps := ps) (fieldJ ps (valueJ ps d)) hf 0 kids s1
                rw [hs2] at hX
                have e3 := tok_b (ps := ps) 128 [] false [125] r s2
                have hb2 : bs = s2.b ++ (spaceT (pickV ps s2.k 8) ++ ([125] ++ r)) := hb.trans e3
                have hb1 : bs = s.b ++ (spaceT (pickV ps s.k 8) ++ ([123] ++ (X ++ (spaceT (pickV ps s2.k 8) ++ ([125] ++ r))))) := by
                  rw [hb2, hX, ← hs1, List.append_assoc, tok_b]
                obtain ⟨a1, g1, g2, g3⟩ := read_openT ha lexed_open hb1 hv (.inl rfl)
                have A1 : At bs s1.b.length (st ++ [64]) 64 a1 := by rw [← hs1]; exact g3
                obtain ⟨a2, Y2, last2, c2, L2, A2, V2⟩ := reads_parts (ps := ps) (bs := bs) (fieldJ ps (valueJ ps d)) hf 64 st (fun n => n = 64 ∨ n = 1024) (.inl rfl) (.inr rfl) kids 0 s1 64 (spaceT (pickV ps s2.k 8) ++ ([125] ++ r))
                  (fun x hx s last r hl hr hb => by
                    intro a ha
                    have hw := hk x hx
                    obtain ⟨Z, _, hZ, _⟩ := appends_value (ps := ps) d x (nameJ ps x.name s)
                    obtain ⟨b1, Y1, last1, c1, M1, B1, rfl⟩ := reads_name (ps := ps) (bs := bs) (r := Z ++ r) (st := st) hw.2.2 (by rw [hb]; unfold fieldJ; rw [hZ, List.append_assoc]) hl a ha
                    obtain ⟨b2, Y2, last2, c2, M2, B2, V2⟩ := ih x (nameJ ps x.name s) (st ++ [64]) 32 r hw.1 (by unfold valN; simp) hr hb b1 B1
                    exact ⟨b2, Y1 ++ Y2, last2, by rw [List.map_append]; exact c1.trans c2, by unfold fieldJ; rw [M2, M1, List.append_assoc], B2, V2⟩) (.inl ⟨rfl, rfl⟩) (delim_space (by decide)) (by rw [hs2]; exact hb2) a1 A1
                rw [hs2] at L2 A2
                obtain ⟨a3, f1, f2, f3⟩ := read_closeO A2 lexed_close hb2 (by unfold ValEnd at V2; omega)
                refine ⟨a3, ⟨64, (s.b ++ spaceT (pickV ps s.k 8)).length, [123], [], false⟩ :: (Y2 ++ [⟨128, (s2.b ++ spaceT (pickV ps s2.k 8)).length, [125], [], false⟩]), 128, ?_, ?_, f3, by unfold ValEnd; omega⟩
                · rw [List.map_cons, List.map_append, List.map_cons, List.map_nil, toTK_at, toTK_at]
                  exact (Chain.one g1 g2 (by simp) (by simp)).trans (c2.trans (Chain.one f1 f2 (by simp) (by simp)))
                · show s2.l ++ [_] = _
                  rw [L2, ← hs1]
                  show (s.l ++ [_]) ++ Y2 ++ [_] = _
                  simp only [List.append_assoc, List.cons_append, List.nil_append]
                  rfl

theorem at_new : At bs 0 [] 0 DS.new := ⟨rfl, rfl, rfl, rfl, Nat.zero_le _, rfl⟩
/-- the end -/
theorem read_eof {a : DS} {n last : Nat} (h : At bs n [] last a) (hn : goN bs n 0 = bs.length) : readC bs a = (⟨false, ⟨1, bs.length, [], false, []⟩, false, [], goN bs bs.length 0⟩, true) := by
  have e := h.pos.trans hn
  unfold readC
  simp only
  rw [e, List.drop_length]
  unfold nextJ
  simp only
  rw [h.st, h.bad, if_pos trivial, if_pos rfl]
  rfl
theorem run_all {a : DS} {l : List TK} {n last : Nat} (hc : Chain bs DS.new l a) (h : At bs n [] last a) (hl : last ≠ 1024) (hn : goN bs n 0 = bs.length) : allJ bs [] = (l, true) := by
  have hf := hc.facts (Nat.zero_le _)
  have hle : l.length ≤ bs.length := by have := hf.2.1; have := hf.2.2.1; omega
  unfold allJ
  have hr := (hc.run (by rw [h.last]; exact hl) rfl (Nat.zero_le _) (bs.length - l.length + 1) []).1 (by simp [DS.new, TK.zero])
  rw [show bs.length - l.length + 1 + l.length = bs.length + 1 by omega] at hr
  rw [hr, runJ_step, readJ_plain h.peeked]
  unfold readF
  rw [read_eof h hn]
  simp
/-- THE WRITER's TOKENS ARE READ -/
theorem write_reads (x : JI) (hw : weightN 20 x ≤ 200) : allJ (writeJ ps x).b [] = ((writeJ ps x).l.map toTK, true) := by
  generalize hq : pickV ps (valueJ ps 20 x ⟨[], 0, []⟩).k 8 = q
  have hb : (writeJ ps x).b = (valueJ ps 20 x ⟨[], 0, []⟩).b ++ spaceT q := by rw [← hq]; rfl
  obtain ⟨a, Y, last, hc, hl, hA, hE⟩ := reads_value (ps := ps) (bs := (writeJ ps x).b) 20 x ⟨[], 0, []⟩ [] 0 (spaceT q) hw rfl (delim_spaces q) hb DS.new at_new
  have e : (writeJ ps x).l = Y := by show (valueJ ps 20 x ⟨[], 0, []⟩).l = Y; rw [hl]; rfl
  rw [e]
  refine run_all hc hA (by unfold ValEnd at hE; omega) ?_
  rw [goN_zero, hb, List.drop_left]
  have := wsN_space q []
  rw [List.append_nil] at this
  rw [this, List.length_append]
  rfl
end Go.Proofs.YtjkmmhnhhiopiaaDoor

namespace Go.Proofs.YtjkmmhnhhiopiaaDoor

/-! ### the next token of a piece -/
theorem wsN_take : ∀ (j : Nat) (l : List UInt8), wsN (l.take j) = min j (wsN l)
  | 0, l => by simp [wsN]
  | j + 1, [] => by simp [wsN]
  | j + 1, c :: l => by
    rw [List.take_succ_cons, wsN_cons, wsN_cons]
    split
    · rw [wsN_take j l]; omega
    · simp
/-- how many bytes at the beginning go on with a word or number -/
def runN : List UInt8 → Nat
  | [] => 0
  | c :: l => if notDel c then runN l + 1 else 0
theorem runN_cons (c : UInt8) (l : List UInt8) : runN (c :: l) = if notDel c then runN l + 1 else 0 := rfl
theorem runN_take : ∀ (j : Nat) (l : List UInt8), runN (l.take j) = min j (runN l)
  | 0, l => by simp [runN]
  | j + 1, [] => by simp [runN]
  | j + 1, c :: l => by
    rw [List.take_succ_cons, runN_cons, runN_cons]
    split
    · rw [runN_take j l]; omega
    · simp
def AllNot (l : List UInt8) : Prop := ∀ c ∈ l, notDel c = true
theorem runN_all : ∀ (n : Nat) (l : List UInt8), AllNot (l.take n) → n ≤ l.length → (∀ c r, l.drop n = c :: r → notDel c = false) → runN l = n
  | 0, [], _, _, _ => rfl
  | 0, c :: l, _, _, h => by rw [runN_cons, h c l rfl]; rfl
  | n + 1, [], _, h, _ => by simp at h
  | n + 1, c :: l, h1, h2, h3 => by
    rw [runN_cons, h1 c (by simp), if_pos rfl, runN_all n l (fun d hd => h1 d (by simp [hd])) (by simpa using h2) (fun d r hd => h3 d r (by simpa using hd))]
theorem AllNot.add {l : List UInt8} {a b : Nat} (h1 : AllNot (l.take a)) (h2 : AllNot ((l.drop a).take b)) : AllNot (l.take (a + b)) := by
  rw [List.take_add]
  intro c hc
  rcases List.mem_append.1 hc with hc | hc
  · exact h1 c hc
  · exact h2 c hc
theorem dg_not {c : UInt8} (h : isDg c = true) : notDel c = true := by unfold notDel; rw [h]; simp
theorem digN_not : ∀ l : List UInt8, AllNot (l.take (digN l))
  | [], c, h => by simp at h
  | d :: l, c, h => by
    rw [digN_cons] at h
    split at h
    · rename_i hd
      rw [List.take_succ_cons] at h
      rcases List.mem_cons.1 h with rfl | h
      · exact dg_not hd
      · exact digN_not l c h
    · simp at h
theorem AllNot.cons {c : UInt8} {l : List UInt8} {n : Nat} (h : notDel c = true) (h2 : AllNot (l.take n)) : AllNot ((c :: l).take (n + 1)) := by
  intro d hd
  rw [List.take_succ_cons] at hd
  rcases List.mem_cons.1 hd with rfl | hd
  · exact h
  · exact h2 d hd
theorem notDel_of {c : UInt8} (h : c.toNat = 45 ∨ c.toNat = 43 ∨ c.toNat = 46 ∨ c.toNat = 101 ∨ c.toNat = 69 ∨ 48 ≤ c.toNat ∧ c.toNat ≤ 57) : notDel c = true := by unfold notDel isDg; simp; omega
theorem negN_not (l : List UInt8) : AllNot (l.take (negN l)) := by
  unfold negN; split
  · split
    · exact AllNot.cons (notDel_of (by omega)) (fun _ h => by simp at h)
    · exact fun _ h => by simp at h
  · exact fun _ h => by simp at h
theorem intN_not {l : List UInt8} {i : Nat} (h : intN l = some i) : AllNot (l.take i) := by
  cases l with
  | nil => cases h
  | cons c l =>
    rw [intN_cons] at h
    split at h
    · cases h; exact AllNot.cons (notDel_of (by omega)) (fun _ h => by simp at h)
    · split at h
      · injection h with h; subst h; rw [Nat.add_comm]; exact AllNot.cons (notDel_of (by omega)) (digN_not l)
      · cases h
theorem fracN_not (l : List UInt8) : AllNot (l.take (fracN l)) := by
  match l with
  | [] => exact fun _ h => by simp at h
  | [_] => exact fun _ h => by simp [fracN] at h
  | a :: d :: l =>
    rw [fracN_two]
    split
    · rename_i hc
      rw [show 2 + digN l = digN l + 1 + 1 by omega]
      exact AllNot.cons (notDel_of (by omega)) (AllNot.cons (dg_not hc.2) (digN_not l))
    · exact fun _ h => by simp at h
theorem expN_not {l : List UInt8} {e : Nat} (h : expN l = some e) : AllNot (l.take e) := by
  match l with
  | [] => exact fun _ h => by simp at h
  | [_] => simp [expN] at h; subst h; exact fun _ h => by simp at h
  | a :: d :: l =>
    rw [expN_two] at h
    by_cases h1 : a.toNat = 101 ∨ a.toNat = 69
    · rw [if_pos h1] at h
      by_cases h2 : d.toNat = 43 ∨ d.toNat = 45
      · rw [if_pos h2] at h
        by_cases h3 : l = []
        · rw [if_pos h3] at h; cases h
        · rw [if_neg h3] at h
          injection h with h
          rw [← h, show 2 + digN l = digN l + 1 + 1 by omega]
          exact AllNot.cons (notDel_of (by omega)) (AllNot.cons (notDel_of (by omega)) (digN_not l))
      · rw [if_neg h2] at h
        injection h with h
        rw [← h, Nat.add_comm]
        exact AllNot.cons (notDel_of (by omega)) (digN_not (d :: l))
    · rw [if_neg h1] at h; injection h with h; subst h; exact fun _ h => by simp at h
/-- a number goes on up to the first byte that ends it -/
theorem numJ_run {l : List UInt8} {n : Nat} (h : numJ l = some n) : runN l = n := by
  have hle := numJ_le h
  unfold numJ at h
  rcases hi : intN (l.drop (negN l)) with _ | i
  · rw [hi] at h; cases h
  · rw [hi] at h
    simp only at h
    rcases he : expN (l.drop (negN l + i + fracN (l.drop (negN l + i)))) with _ | e
    · rw [he] at h; cases h
    · rw [he] at h
      simp only at h
      have hA : AllNot (l.take (negN l + i + fracN (l.drop (negN l + i)) + e)) := (((negN_not l).add (intN_not hi)).add (fracN_not _)).add (expN_not he)
      generalize negN l + i + fracN (l.drop (negN l + i)) + e = m at h hA
      rcases hd : l.drop m with _ | ⟨c, r⟩
      · rw [hd] at h; simp only [Option.some.injEq] at h; subst h
        exact runN_all m l hA hle.2 (fun c r e => by rw [hd] at e; cases e)
      · rw [hd] at h
        simp only at h
        cases hn : notDel c with
        | true => rw [hn] at h; cases h
        | false =>
          rw [hn] at h; simp only [Bool.false_eq_true, if_false, Option.some.injEq] at h; subst h
          exact runN_all m l hA hle.2 (fun c' r' e => by rw [hd] at e; injection e with e1 _; rw [← e1]; exact hn)
theorem u8char_app {l r : List UInt8} {c n : Nat} (h : u8char l = some (c, n)) : u8char (l ++ r) = some (c, n) := by
  have := u8char_take (r := l.drop n ++ r) h
  rwa [← List.append_assoc, List.take_append_drop] at this
theorem getD_app {l r : List UInt8} {i : Nat} (h : i < l.length) : (l ++ r).getD i 0 = l.getD i 0 := by
  rw [List.getD_eq_getElem?_getD, List.getD_eq_getElem?_getD, List.getElem?_append_left h]
theorem piece_app {l r : List UInt8} {a : Nat} (h : a + 4 ≤ l.length) : ((l ++ r).drop a).take 4 = (l.drop a).take 4 := by
  rw [List.drop_append_of_le_length (by omega), List.take_append_of_le_length (by simp; omega)]
theorem escU_app {l r b : List UInt8} {m : Nat} (h : escU l = some (b, m)) : escU (l ++ r) = some (b, m) := by
  unfold escU at h ⊢
  by_cases h1 : l.length < 6
  · rw [if_pos h1] at h; cases h
  · rw [if_neg h1] at h
    rw [if_neg (by simp; omega), piece_app (by omega)]
    rcases hv : hexN 0 ((l.drop 2).take 4) with _ | v
    · rw [hv] at h; cases h
    · rw [hv] at h
      simp only at h ⊢
      by_cases h2 : surrB v = false
      · rw [if_pos h2] at h ⊢; exact h
      · rw [if_neg h2] at h ⊢
        by_cases h3 : l.length < 12
        · rw [if_pos h3] at h; cases h
        · rw [if_neg h3] at h
          rw [if_neg (by simp; omega), piece_app (by omega), getD_app (by omega), getD_app (by omega)]
          exact h
theorem escJ_app {l r b : List UInt8} {m : Nat} (h : escJ l = some (b, m)) : escJ (l ++ r) = some (b, m) := by
  match l, h with
  | a :: c :: l, h =>
    rw [escJ_cons] at h
    simp only [List.cons_append]
    rw [escJ_cons]
    split at h
    · rename_i hc; rw [if_pos hc]; exact escU_app (r := r) h
    · rename_i hc; rw [if_neg hc]; exact h
theorem strL_app : ∀ (f : Nat) (l r out s : List UInt8) (k : Nat), strL f l out = some (s, k) → strA (l ++ r) out = some (s, k + r.length)
  | 0, _, _, _, _, _, h => by cases h
  | f + 1, l, r, out, s, k, h => by
    unfold strL at h
    rcases hu : u8char l with _ | ⟨c, n⟩
    · rw [hu] at h; cases h
    · rw [hu] at h
      have hn := u8char_size hu
      simp only at h
      rw [strA_some (u8char_app hu)]
      split at h
      · rename_i hc
        rw [if_pos hc]
        injection h with h; injection h with h1 h2
        subst h1 h2
        simp only [List.length_append]
        congr 2
        omega
      · rename_i hc
        rw [if_neg hc]
        split at h
        · cases h
        · rename_i hc2
          rw [if_neg hc2]
          split at h
          · rename_i hc3
            rw [if_pos hc3]
            rcases he : escJ l with _ | ⟨b, m⟩
            · rw [he] at h; cases h
            · rw [he] at h
              have hm := escJ_size he
              rw [escJ_app he]
              simp only at h ⊢
              rw [List.drop_append_of_le_length (by omega)]
              exact strL_app f _ r _ s k h
          · rename_i hc3
            rw [if_neg hc3, List.drop_append_of_le_length (by omega), List.take_append_of_le_length (by omega)]
            exact strL_app f _ r _ s k h
theorem strJ_app {l r s : List UInt8} {n : Nat} (h : strJ l = some (s, n)) : strJ (l ++ r) = some (s, n) := by
  cases l with
  | nil => cases h
  | cons c l =>
    rw [strJ_cons] at h
    rw [List.cons_append, strJ_cons]
    rcases hs : strA l [] with _ | ⟨t, m⟩
    · rw [hs] at h; cases h
    · rw [hs] at h
      have hle := strL_le _ _ _ _ _ hs
      unfold strA at hs
      rw [strL_app _ l r _ _ _ hs]
      simp only at h ⊢
      injection h with h; injection h with h1 h2
      subst h1 h2
      congr 2
      simp only [List.length_append]
      omega
theorem wordD_take {s l : List UInt8} {j : Nat} (h : wordD s l = true) (hj : s.length ≤ j) : wordD s (l.take j) = true := by
  unfold wordD at h ⊢
  rw [Bool.and_eq_true] at h ⊢
  obtain ⟨r, rfl⟩ := List.isPrefixOf_iff_prefix.1 h.1
  have h2 := h.2
  rw [List.drop_left] at h2
  have e : (s ++ r).take j = s ++ r.take (j - s.length) := by rw [List.take_append, List.take_of_length_le hj]
  rw [e, List.drop_left]
  refine ⟨List.isPrefixOf_iff_prefix.2 ⟨_, rfl⟩, ?_⟩
  cases r with
  | nil => simp
  | cons c r =>
    cases j - s.length with
    | zero => simp
    | succ i => simpa using h2
theorem wordD_cut {s l : List UInt8} {j : Nat} (hj : j < s.length) : wordD s (l.take j) = false := by
  cases h : wordD s (l.take j) with
  | false => rfl
  | true => have := wordD_len h; simp only [List.length_take] at this; omega
/-- the next token of the first bytes alone -/
theorem nextJ_take {l : List UInt8} {kd n j : Nat} {b : Bool} {t : List UInt8} (h : nextJ l = some (kd, n, b, t)) (hne : l ≠ []) (hj : 0 < j) :
    nextJ (l.take j) = none ∨ (n ≤ j ∧ nextJ (l.take j) = some (kd, n, b, t)) ∨ (j < n ∧ kd = 8 ∧ ∃ b' t', nextJ (l.take j) = some (kd, (l.take j).length, b', t')) := by
  obtain ⟨j, rfl⟩ : ∃ i, j = i + 1 := ⟨j - 1, by omega⟩
  cases l with
  | nil => exact absurd rfl hne
  | cons c l =>
    have word : ∀ {s : List UInt8} {k : Nat} {b' : Bool}, (if wordD s (c :: l) then some (k, s.length, b', ([] : List UInt8)) else none) = some (kd, n, b, t) →
        (if wordD s ((c :: l).take (j + 1)) then some (k, s.length, b', ([] : List UInt8)) else none) = none ∨ (n ≤ j + 1 ∧ (if wordD s ((c :: l).take (j + 1)) then some (k, s.length, b', ([] : List UInt8)) else none) = some (kd, n, b, t)) ∨
        (j + 1 < n ∧ kd = 8 ∧ ∃ b'' t', (if wordD s ((c :: l).take (j + 1)) then some (k, s.length, b', ([] : List UInt8)) else none) = some (kd, ((c :: l).take (j + 1)).length, b'', t')) := by
      intro s k b' he
      by_cases hw : wordD s (c :: l) = true
      · rw [if_pos hw] at he
        have hn : s.length = n := by simp only [Option.some.injEq, Prod.mk.injEq] at he; exact he.2.1
        by_cases hs : s.length ≤ j + 1
        · refine .inr (.inl ⟨by omega, ?_⟩)
          rw [if_pos (wordD_take hw hs)]; exact he
        · refine .inl ?_
          rw [if_neg (by rw [wordD_cut (by omega)]; decide)]
      · rw [if_neg hw] at he; cases he
    rw [nextJ_cons] at h
    rw [List.take_succ_cons, nextJ_cons]
    rw [List.take_succ_cons] at word
    by_cases c1 : c.toNat = 110
    · rw [if_pos c1] at h ⊢; exact word h
    · rw [if_neg c1] at h ⊢
      by_cases c2 : c.toNat = 116
      · rw [if_pos c2] at h ⊢; exact word h
      · rw [if_neg c2] at h ⊢
        by_cases c3 : c.toNat = 102
        · rw [if_pos c3] at h ⊢; exact word h
        · rw [if_neg c3] at h ⊢
          by_cases c4 : c.toNat = 45 ∨ isDg c = true
          · rw [if_pos c4] at h ⊢
            rcases hn : numJ (c :: l) with _ | m
            · rw [hn] at h; cases h
            · rw [hn] at h
              simp only [Option.some.injEq, Prod.mk.injEq] at h
              obtain ⟨rfl, rfl, rfl, rfl⟩ := h
              rcases hn2 : numJ (c :: l.take j) with _ | m2
              · exact .inl rfl
              · have r1 := numJ_run hn
                have r2 := numJ_run hn2
                have r3 := runN_take (j + 1) (c :: l)
                rw [List.take_succ_cons] at r3
                have hle := numJ_le hn
                by_cases hm : m ≤ j + 1
                · obtain rfl : m2 = m := by omega
                  exact .inr (.inl ⟨hm, rfl⟩)
                · refine .inr (.inr ⟨by omega, rfl, false, [], ?_⟩)
                  have : m2 = (c :: l.take j).length := by simp only [List.length_cons, List.length_take] at hle ⊢; omega
                  rw [this]
          · rw [if_neg c4] at h ⊢
            by_cases c5 : c.toNat = 34
            · rw [if_pos c5] at h ⊢
              rcases hn : strJ (c :: l) with _ | ⟨s, m⟩
              · rw [hn] at h; cases h
              · rw [hn] at h
                simp only [Option.some.injEq, Prod.mk.injEq] at h
                obtain ⟨rfl, rfl, rfl, rfl⟩ := h
                rcases hn2 : strJ (c :: l.take j) with _ | ⟨s2, m2⟩
                · exact .inl rfl
                · have := strJ_app (r := l.drop j) hn2
                  rw [List.cons_append, List.take_append_drop, hn] at this
                  injection this with this; injection this with e1 e2
                  subst e1 e2
                  have hle := strJ_le hn2
                  refine .inr (.inl ⟨?_, rfl⟩)
                  have := hle.2.1
                  simp only [List.length_cons, List.length_take] at this
                  omega
            · rw [if_neg c5] at h ⊢
              have one : ∀ {k : Nat}, some (k, 1, false, ([] : List UInt8)) = some (kd, n, b, t) → n ≤ j + 1 := by
                intro k he
                simp only [Option.some.injEq, Prod.mk.injEq] at he
                omega
              refine .inr (.inl ⟨?_, h⟩)
              repeat' split at h
              all_goals first | exact one h | cases h

/-! ### the reader of a piece -/
/-- a run that ends in an error -/
inductive Dies (bs : List UInt8) : DS → Prop
  | now {s s1 : DS} : readC bs s = (s1, false) → Dies bs s
  | later {s s1 : DS} : readC bs s = (s1, true) → s1.tok.kind ≠ 1 → Dies bs s1 → Dies bs s
theorem Dies.run {bs : List UInt8} {s : DS} (h : Dies bs s) : s.peeked = false → s.k ≤ bs.length → ∀ (f : Nat) (out : List TK),
    (s.tok.kind ≠ 1024 → (runJ bs [] f s out).2 = false) ∧ (s.tok.kind = 1024 → ∀ s0, s0.peeked = false → readC bs s0 = (s, true) → (runJ bs [] f s0 out).2 = false) := by
  induction h with
  | @now s s1 h =>
    intro hp hk f out
    cases f with
    | zero => exact ⟨fun _ => rfl, fun _ _ _ _ => rfl⟩
    | succ f =>
      refine ⟨fun _ => ?_, fun hc s0 hp0 h0 => ?_⟩
      · rw [runJ_step, readJ_plain hp]; unfold readF; rw [h]
      · rw [runJ_step, readJ_plain hp0]; unfold readF; rw [h0]; simp only; rw [if_pos hc, h]
  | @later s s1 h1 h3 _ ih =>
    intro hp hk f out
    have ho := readC_ok h1 hk
    have ih' := ih ho.1 ho.2.2.1
    cases f with
    | zero => exact ⟨fun _ => rfl, fun _ _ _ _ => rfl⟩
    | succ f =>
      refine ⟨fun _ => ?_, fun hc s0 hp0 h0 => ?_⟩
      · by_cases h2 : s1.tok.kind = 1024
        · exact (ih' (f + 1) out).2 h2 s hp h1
        · rw [runJ_step, readJ_plain hp]; unfold readF; rw [h1]; simp only; rw [if_neg h2]; simp only; rw [if_neg h3]
          exact (ih' f _).1 h2
      · have h2 : s1.tok.kind ≠ 1024 := ho.2.2.2.2.2 hc
        rw [runJ_step, readJ_plain hp0]; unfold readF; rw [h0]; simp only; rw [if_pos hc, h1]; simp only; rw [if_neg h3]
        exact (ih' f _).1 h2

section
variable {bs : List UInt8} {m : Nat}
/-- the piece's reader stands where the whole one's does, or at the piece's end -/
structure Sim (m : Nat) (s s' : DS) : Prop where
  st : s'.st = s.st
  last : s'.tok.kind = s.tok.kind
  k : s'.k = min m s.k
theorem goN_take {k n : Nat} (h : k + n ≤ m) : goN (bs.take m) k n = min m (goN bs k n) := by
  unfold goN
  rw [List.drop_take, wsN_take]
  omega
theorem goN_end (hm : m ≤ bs.length) : goN (bs.take m) m 0 = m := by
  rw [goN_zero, List.drop_eq_nil_of_le (by rw [List.length_take]; omega)]; rfl
theorem dies_end {s' : DS} (hm : m ≤ bs.length) (hk : goN (bs.take m) s'.k 0 = m) (hs : s'.st ≠ []) : ∃ s1, readC (bs.take m) s' = (s1, false) := by
  unfold readC
  simp only
  rw [hk, List.drop_eq_nil_of_le (by rw [List.length_take]; omega)]
  unfold nextJ
  simp only
  rw [if_pos trivial, if_neg hs]
  exact ⟨_, rfl⟩
/-- one step -/
theorem sim_step {s s' s1 : DS} (hm : m ≤ bs.length) (hk : s.k ≤ bs.length) (hS : Sim m s s') (h : readC bs s = (s1, true)) (h1 : s1.tok.kind ≠ 1) (hlt : goN bs s.k 0 < m) :
    (∃ x, readC (bs.take m) s' = (x, false)) ∨ (∃ x, readC (bs.take m) s' = (x, true) ∧ Sim m s1 x) ∨
    (∃ x, readC (bs.take m) s' = (x, true) ∧ x.st = s.st ∧ x.tok.kind = 8 ∧ goN (bs.take m) x.k 0 = m ∧ s1.tok.kind = 8) := by
  have hg := goN_le (bs := bs) (k := s.k) (n := 0) (by omega)
  have hk' : s'.k = s.k := by rw [hS.k]; omega
  have hg1 : goN (bs.take m) s'.k 0 = goN bs s.k 0 := by rw [hk', goN_take (by omega)]; omega
  unfold readC at h ⊢
  simp only at h ⊢
  rw [hg1, hS.st, hS.last]
  generalize hk1 : goN bs s.k 0 = k1 at *
  rcases hn : nextJ (bs.drop k1) with _ | ⟨kd, n, b, t⟩
  · rw [hn] at h; cases h
  · rw [hn] at h
    simp only at h
    have hne : bs.drop k1 ≠ [] := by intro e; have := congrArg List.length e; simp only [List.length_drop, List.length_nil] at this; omega
    have hok := nextJ_ok hn
    have hnl := hok.1
    simp only [List.length_drop] at hnl
    have hT := nextJ_take (j := m - k1) hn hne (by omega)
    rw [← List.drop_take] at hT
    rcases hT with e | ⟨hle, e⟩ | ⟨hgt, rfl, b', t', e⟩
    · rw [e]; exact .inl ⟨_, rfl⟩
    · rw [e]
      simp only
      have hg2 : goN (bs.take m) k1 n = min m (goN bs k1 n) := goN_take (by omega)
      have hg2l := goN_le (bs := bs) (k := k1) (n := n) (by omega)
      rw [hg2]
      have key : ∀ {st : List Nat} {kd' : Nat} {r r' : List UInt8} {bd : Bool}, (⟨false, ⟨kd', k1, r, b, t⟩, s.bad, st, goN bs k1 n⟩, true) = (s1, true) → Sim m s1 ⟨false, ⟨kd', k1, r', b, t⟩, bd, st, min m (goN bs k1 n)⟩ := by
        intro st kd' r r' bd he
        injection he with he _
        subst he
        exact ⟨rfl, rfl, rfl⟩
      by_cases q1 : kd = 1
      · exfalso
        rw [if_pos q1] at h
        split at h
        · injection h with h _; subst h; exact h1 q1
        · cases h
      · rw [if_neg q1] at h ⊢
        by_cases q2 : kd = 2 ∨ kd = 4 ∨ kd = 8
        · rw [if_pos q2] at h ⊢
          split at h
          · rename_i hv; rw [if_pos hv]; exact .inr (.inl ⟨_, rfl, key h⟩)
          · cases h
        · rw [if_neg q2] at h ⊢
          by_cases q3 : kd = 16
          · rw [if_pos q3] at h ⊢
            split at h
            · rename_i hv; rw [if_pos hv]; exact .inr (.inl ⟨_, rfl, key h⟩)
            · rename_i hv
              rw [if_neg hv]
              split at h
              · rename_i hl
                rw [if_pos hl]
                by_cases hcut : goN bs k1 n < m
                · rw [show min m (goN bs k1 n) = goN bs k1 n by omega, List.drop_take]
                  rcases hd : bs.drop (goN bs k1 n) with _ | ⟨c, r⟩
                  · rw [hd] at h; cases h
                  · rw [hd] at h
                    obtain ⟨i, hi⟩ : ∃ i, m - goN bs k1 n = i + 1 := ⟨m - goN bs k1 n - 1, by omega⟩
                    rw [hi, List.take_succ_cons]
                    simp only at h ⊢
                    split at h
                    · rename_i hcc
                      rw [if_pos hcc]
                      injection h with h _
                      subst h
                      refine .inr (.inl ⟨_, rfl, ⟨rfl, rfl, ?_⟩⟩)
                      exact goN_take (by omega)
                    · cases h
                · rw [show min m (goN bs k1 n) = m by omega, List.drop_eq_nil_of_le (by rw [List.length_take]; omega)]
                  exact .inl ⟨_, rfl⟩
              · cases h
          · rw [if_neg q3] at h ⊢
            by_cases q4 : kd = 64 ∨ kd = 256
            · rw [if_pos q4] at h ⊢
              split at h
              · rename_i hv; rw [if_pos hv]; exact .inr (.inl ⟨_, rfl, key h⟩)
              · cases h
            · rw [if_neg q4] at h ⊢
              by_cases q5 : kd = 128
              · rw [if_pos q5] at h ⊢
                split at h
                · rename_i hv; rw [if_pos hv]; exact .inr (.inl ⟨_, rfl, key h⟩)
                · cases h
              · rw [if_neg q5] at h ⊢
                by_cases q6 : kd = 512
                · rw [if_pos q6] at h ⊢
                  split at h
                  · rename_i hv; rw [if_pos hv]; exact .inr (.inl ⟨_, rfl, key h⟩)
                  · cases h
                · rw [if_neg q6] at h ⊢
                  split at h
                  · rename_i hv; rw [if_pos hv]; exact .inr (.inl ⟨_, rfl, key h⟩)
                  · cases h
    · rw [e]
      simp only
      rw [if_neg (by decide), if_pos (by decide)] at h ⊢
      split
      · rename_i hv
        rw [if_pos hv] at h
        refine .inr (.inr ⟨_, rfl, rfl, rfl, ?_, by injection h with h _; rw [← h]⟩)
        have hl : ((bs.take m).drop k1).length = m - k1 := by simp; omega
        show goN (bs.take m) (goN (bs.take m) k1 _) 0 = m
        rw [hl, goN_addF (bs.take m) k1, goN_idem, show k1 + (m - k1) = m by omega, goN_end hm]
      · exact .inl ⟨_, rfl⟩
/-- nothing comes behind the whole value -/
theorem stuck {s s1 : DS} (hs : s.st = []) (hk : s.tok.kind = 128 ∨ s.tok.kind = 512) (h : readC bs s = (s1, true)) : s1.tok.kind = 1 := by
  unfold readC at h
  simp only at h
  have hv : valN s.st s.tok.kind = false := by rw [hs]; unfold valN; simp; omega
  rcases hn : nextJ (bs.drop (goN bs s.k 0)) with _ | ⟨kd, n, b, t⟩
  · rw [hn] at h; cases h
  · rw [hn] at h
    simp only at h
    rw [hv, hs] at h
    by_cases q1 : kd = 1
    · rw [if_pos q1, if_pos rfl] at h
      injection h with h _
      rw [← h]; exact q1
    · rw [if_neg q1] at h
      exfalso
      by_cases q2 : kd = 2 ∨ kd = 4 ∨ kd = 8
      · rw [if_pos q2, if_neg (by decide)] at h; cases h
      · rw [if_neg q2] at h
        by_cases q3 : kd = 16
        · rw [if_pos q3, if_neg (by decide), if_neg (by omega)] at h; cases h
        · rw [if_neg q3] at h
          by_cases q4 : kd = 64 ∨ kd = 256
          · rw [if_pos q4, if_neg (by decide)] at h; cases h
          · rw [if_neg q4] at h
            by_cases q5 : kd = 128
            · rw [if_pos q5, if_neg (by simp)] at h; cases h
            · rw [if_neg q5] at h
              by_cases q6 : kd = 512
              · rw [if_pos q6, if_neg (by simp)] at h; cases h
              · rw [if_neg q6, if_neg (by simp)] at h; cases h
/-- what empties the stack is an end, and stands where it was looked for -/
theorem closed {s s1 : DS} (hs : s.st ≠ []) (h : readC bs s = (s1, true)) (h1 : s1.st = []) : (s1.tok.kind = 128 ∨ s1.tok.kind = 512) ∧ s1.tok.pos = goN bs s.k 0 := by
  unfold readC at h
  simp only at h
  rcases hn : nextJ (bs.drop (goN bs s.k 0)) with _ | ⟨kd, n, b, t⟩
  · rw [hn] at h; cases h
  · rw [hn] at h
    simp only at h
    have same : ∀ {k' : Nat} {tok : TK}, (⟨false, tok, s.bad, s.st, k'⟩, true) = (s1, true) → False := by
      intro k' tok he
      injection he with he _
      rw [← he] at h1
      exact hs h1
    split at h
    · cases h
    · split at h
      · split at h
        · exact (same h).elim
        · cases h
      · split at h
        · repeat' split at h
          all_goals first | exact (same h).elim | cases h
        · split at h
          · split at h
            · injection h with h _
              rw [← h] at h1
              exact absurd h1 (by simp)
            · cases h
          · split at h
            · rename_i q5
              split at h
              · injection h with h _
                rw [← h]; exact ⟨.inl q5, rfl⟩
              · cases h
            · split at h
              · rename_i q6
                split at h
                · injection h with h _
                  rw [← h]; exact ⟨.inr q6, rfl⟩
                · cases h
              · split at h
                · exact (same h).elim
                · cases h
theorem pos_of {s s1 : DS} (h : readC bs s = (s1, true)) : s1.tok.pos = goN bs s.k 0 := by
  unfold readC at h
  simp only at h
  rcases hn : nextJ (bs.drop (goN bs s.k 0)) with _ | ⟨kd, n, b, t⟩
  · rw [hn] at h; cases h
  · rw [hn] at h
    simp only at h
    have same : ∀ {k' kd' : Nat} {r : List UInt8} {st : List Nat}, (⟨false, ⟨kd', goN bs s.k 0, r, b, t⟩, s.bad, st, k'⟩, true) = (s1, true) → s1.tok.pos = goN bs s.k 0 := by
      intro k' kd' r st he
      injection he with he _
      rw [← he]
    repeat' split at h
    all_goals first | exact same h | cases h
/-- what is read between an opening and its end, cut, is refused -/
theorem cut_dies {s t : DS} {l : List TK} (hc : Chain bs s l t) (hm : m ≤ bs.length) (ht : t.st = []) : ∀ s', s.k ≤ bs.length → Sim m s s' → s.st ≠ [] → (∀ x ∈ l.getLast?, m ≤ x.pos) → Dies (bs.take m) s' := by
  induction hc with
  | nil s => intro s' _ _ h _; exact absurd ht h
  | @tok s s1 t l h1 h2 h3 hc ih =>
    intro s' hk hS hst hlast
    by_cases hlt : goN bs s.k 0 < m
    · have ho := readC_ok h1 hk
      rcases sim_step hm hk hS h1 h3 hlt with ⟨x, hx⟩ | ⟨x, hx, hX⟩ | ⟨x, hx, x1, x2, x3, x4⟩
      · exact .now hx
      · by_cases hs1 : s1.st = []
        · exfalso
          obtain ⟨c1, c2⟩ := closed hst h1 hs1
          have : l = [] := by
            cases hc with
            | nil => rfl
            | tok g1 g2 g3 _ => exact absurd (stuck hs1 c1 g1) g3
            | comma g1 g2 _ => have := stuck hs1 c1 g1; omega
          subst this
          have := hlast s1.tok (by simp)
          omega
        · refine .later hx (by rw [hX.last]; exact h3) (ih ht x ho.2.2.1 hX hs1 fun y hy => ?_)
          cases l with
          | nil => simp at hy
          | cons z l => exact hlast y (by rw [List.getLast?_cons_cons]; exact hy)
      · obtain ⟨y, hy⟩ := dies_end hm x3 (by rw [x1]; exact hst)
        exact .later hx (by rw [x2]; decide) (.now hy)
    · have hg := goN_le (bs := bs) (k := s.k) (n := 0) (by omega)
      have : goN (bs.take m) s'.k 0 = m := by
        rw [hS.k]
        by_cases hkm : s.k ≤ m
        · rw [show min m s.k = s.k by omega, goN_take (by omega)]; omega
        · rw [show min m s.k = m by omega]; exact goN_end hm
      obtain ⟨y, hy⟩ := dies_end hm this (by rw [hS.st]; exact hst)
      exact .now hy
  | @comma s s1 t l h1 h2 hc ih =>
    intro s' hk hS hst hlast
    by_cases hlt : goN bs s.k 0 < m
    · have ho := readC_ok h1 hk
      rcases sim_step hm hk hS h1 (by omega) hlt with ⟨x, hx⟩ | ⟨x, hx, hX⟩ | ⟨x, hx, x1, x2, x3, x4⟩
      · exact .now hx
      · by_cases hs1 : s1.st = []
        · have := (closed hst h1 hs1).1; omega
        · exact .later hx (by rw [hX.last]; omega) (ih ht x ho.2.2.1 hX hs1 hlast)
      · obtain ⟨y, hy⟩ := dies_end hm x3 (by rw [x1]; exact hst)
        exact .later hx (by rw [x2]; decide) (.now hy)
    · have hg := goN_le (bs := bs) (k := s.k) (n := 0) (by omega)
      have : goN (bs.take m) s'.k 0 = m := by
        rw [hS.k]
        by_cases hkm : s.k ≤ m
        · rw [show min m s.k = s.k by omega, goN_take (by omega)]; omega
        · rw [show min m s.k = m by omega]; exact goN_end hm
      obtain ⟨y, hy⟩ := dies_end hm this (by rw [hS.st]; exact hst)
      exact .now hy
/-- what opens keeps the stack -/
theorem opened {s s1 : DS} (h : readC bs s = (s1, true)) (hk : s1.tok.kind = 64 ∨ s1.tok.kind = 256) : s1.st ≠ [] := by
  unfold readC at h
  simp only at h
  rcases hn : nextJ (bs.drop (goN bs s.k 0)) with _ | ⟨kd, n, b, t⟩
  · rw [hn] at h; cases h
  · rw [hn] at h
    simp only at h
    have same : ∀ {k' kd' : Nat} {r : List UInt8} {st : List Nat}, (⟨false, ⟨kd', goN bs s.k 0, r, b, t⟩, s.bad, st, k'⟩, true) = (s1, true) → kd' = 64 ∨ kd' = 256 := by
      intro k' kd' r st he
      injection he with he _
      rw [← he] at hk; exact hk
    by_cases q1 : kd = 1
    · rw [if_pos q1] at h; split at h
      · have := same h; omega
      · cases h
    · rw [if_neg q1] at h
      by_cases q2 : kd = 2 ∨ kd = 4 ∨ kd = 8
      · rw [if_pos q2] at h; split at h
        · have := same h; omega
        · cases h
      · rw [if_neg q2] at h
        by_cases q3 : kd = 16
        · rw [if_pos q3] at h
          split at h
          · have := same h; omega
          · repeat' split at h
            all_goals first | (have := same h; omega) | cases h
        · rw [if_neg q3] at h
          by_cases q4 : kd = 64 ∨ kd = 256
          · rw [if_pos q4] at h; split at h
            · injection h with h _; rw [← h]; simp
            · cases h
          · rw [if_neg q4] at h
            by_cases q5 : kd = 128
            · rw [if_pos q5] at h; split at h
              · have := same h; omega
              · cases h
            · rw [if_neg q5] at h
              by_cases q6 : kd = 512
              · rw [if_pos q6] at h; split at h
                · have := same h; omega
                · cases h
              · rw [if_neg q6] at h; split at h
                · have := same h
                  have hok := nextJ_ok hn
                  omega
                · cases h
theorem comma_open {s s1 : DS} (h : readC bs s = (s1, true)) (hk : s1.tok.kind = 1024) : s.st ≠ [] := by
  unfold readC at h
  simp only at h
  rcases hn : nextJ (bs.drop (goN bs s.k 0)) with _ | ⟨kd, n, b, t⟩
  · rw [hn] at h; cases h
  · rw [hn] at h
    simp only at h
    have same : ∀ {k' kd' : Nat} {r : List UInt8} {st : List Nat}, (⟨false, ⟨kd', goN bs s.k 0, r, b, t⟩, s.bad, st, k'⟩, true) = (s1, true) → kd' = 1024 := by
      intro k' kd' r st he
      injection he with he _
      rw [← he] at hk; exact hk
    have hok := nextJ_ok hn
    intro hs
    rw [hs] at h
    repeat' split at h
    all_goals first
      | (have := same h; omega)
      | (rename_i hc; exact absurd rfl hc.1)
      | cases h
theorem cut_all {a : DS} {t0 : TK} {l : List TK} (hc : Chain bs DS.new (t0 :: l) a) (hst : a.st = []) (hk : t0.kind = 64 ∨ t0.kind = 256) (hm : m ≤ bs.length) (h0 : t0.pos < m) (hl : ∀ x ∈ l.getLast?, m ≤ x.pos) : (allJ (bs.take m) []).2 = false := by
  have hsim : Sim m DS.new DS.new := ⟨rfl, rfl, by simp [DS.new]⟩
  have hd : Dies (bs.take m) DS.new := by
    generalize hl2 : t0 :: l = l2 at hc
    cases hc with
    | nil => cases hl2
    | @tok _ s1 _ l' g1 g2 g3 g4 =>
      injection hl2 with e1 e2
      subst e1 e2
      have hp := pos_of g1
      have ho := readC_ok g1 (Nat.zero_le _)
      rcases sim_step hm (Nat.zero_le _) hsim g1 g3 (by omega) with ⟨x, hx⟩ | ⟨x, hx, hX⟩ | ⟨x, hx, x1, x2, x3, x4⟩
      · exact .now hx
      · exact .later hx (by rw [hX.last]; exact g3) (cut_dies g4 hm hst x ho.2.2.1 hX (opened g1 hk) hl)
      · omega
    | @comma _ s1 _ _ g1 g2 g3 => exact absurd rfl (comma_open g1 g2)
  exact (hd.run rfl (Nat.zero_le _) _ []).1 (by simp [DS.new, TK.zero])
end
end Go.Proofs.YtjkmmhnhhiopiaaDoor

namespace Go.Proofs.YtjkmmhnhhiopiaaDoor

def okC (c : Nat) : Prop := c < 55296 ∨ 57344 ≤ c ∧ c ≤ 1114111
def escOne (c : Nat) : List UInt8 :=
  if c < 65536 then esc4 false false false false c
  else esc4 false false false false (55296 + (c - 65536) / 1024) ++ esc4 false false false false (56320 + (c - 65536) % 1024)
def escAll (l : List Nat) : List UInt8 := l.flatMap escOne
def wantAll (l : List Nat) : List UInt8 := l.flatMap encU
theorem escOne_len (c : Nat) : (escOne c).length ≤ 12 := by
  unfold escOne; split
  · exact (by decide : 6 ≤ 12)
  · exact Nat.le_refl _
theorem escAll_len (l : List Nat) : (escAll l).length ≤ 12 * l.length ∧ (wantAll l).length ≤ 4 * l.length := by
  induction l with
  | nil => exact ⟨Nat.le_refl _, Nat.le_refl _⟩
  | cons c l ih =>
    have h1 := escOne_len c
    have h2 := encU_le c
    unfold escAll wantAll at ih ⊢
    simp only [List.flatMap_cons, List.length_append, List.length_cons]
    omega
theorem strA_escOne {c : Nat} (h : okC c) (r acc : List UInt8) : strA (escOne c ++ r) acc = strA r (acc ++ encU c) := by
  unfold okC at h
  unfold escOne
  split
  · exact strA_esc (escJ_one false false false false c (by omega) (by omega) r)
  · rename_i hc
    have hm := Nat.mod_lt (c - 65536) (show 1024 > 0 by decide)
    have he := escJ_two false false false false false false false false (55296 + (c - 65536) / 1024) (56320 + (c - 65536) % 1024) (by omega) (by omega) r
    rw [show (55296 + (c - 65536) / 1024 - 55296) * 1024 + (56320 + (c - 65536) % 1024 - 56320) + 65536 = c by omega] at he
    rw [List.append_assoc]
    exact strA_esc he
theorem strA_escAll : ∀ (l : List Nat), (∀ c ∈ l, okC c) → ∀ r acc, strA (escAll l ++ r) acc = strA r (acc ++ wantAll l)
  | [], _, r, acc => by simp [escAll, wantAll]
  | c :: l, h, r, acc => by
    have ih := strA_escAll l (fun d hd => h d (by simp [hd])) r (acc ++ encU c)
    have h1 := strA_escOne (h c (by simp)) (escAll l ++ r) acc
    unfold escAll wantAll at ih ⊢
    unfold escAll at h1
    simp only [List.flatMap_cons, List.append_assoc] at ih h1 ⊢
    rw [h1, ih]
/-- a string alone -/
theorem string_reads {S t : List UInt8} (h : ∀ r acc, strA (S ++ r) acc = strA r (acc ++ t)) : allJ (34 :: (S ++ [34])) [] = ([⟨16, 0, 34 :: (S ++ [34]), false, t⟩], true) := by
  have hx : Lexed 16 t false (34 :: (S ++ [34])) := by
    refine ⟨fun r _ => ?_, 34, S ++ [34], rfl, by decide⟩
    have hs : strJ (34 :: (S ++ [34]) ++ r) = some (t, (34 :: (S ++ [34])).length) := by
      simp only [List.cons_append, List.append_assoc, List.nil_append]
      rw [strJ_cons, h, List.nil_append, strA_some (u8char_ascii 34 r (by decide)), if_pos (by decide)]
      simp only [List.length_cons, List.length_append, List.length_nil, Nat.add_sub_cancel]
      congr 2
      omega
    rw [List.cons_append] at hs ⊢
    rw [nextJ_cons, if_neg (by decide), if_neg (by decide), if_neg (by decide), if_neg (by decide), if_pos (by decide), hs]
  generalize hb : 34 :: (S ++ [34]) = b at hx
  obtain ⟨a, h1, h2, h3⟩ := read_leaf (bs := b) (pre := []) (q := 0) (text := b) (r := []) (st := []) (last := 0) at_new hx (.inr Delim.nil) (by simp [spaceT]) rfl (by decide)
  refine run_all (n := b.length) (Chain.one h1 h2 (by simp) (by simp)) (by simpa [spaceT] using h3) (by decide) ?_
  rw [goN_zero, List.drop_length]; rfl
theorem escapes_read (l : List Nat) (h : ∀ c ∈ l, okC c) : allJ (34 :: (escAll l ++ [34])) [] = ([⟨16, 0, 34 :: (escAll l ++ [34]), false, wantAll l⟩], true) := string_reads (strA_escAll l h)
end Go.Proofs.YtjkmmhnhhiopiaaDoor
