/-
  UTF-8: a character alone; its bytes. Plain functions.
-/
import Derived.Test.YtgdnpnipahegaaaDoorUtf8Enc
namespace Go.Proofs.YtgdnpnipahegaaaDoor

theorem u8take_take : ∀ (k acc v : Nat) (l r : List UInt8), u8take k acc l = some v → u8take k acc (l.take k ++ r) = some v
  | 0, _, _, _, _, h => h
  | k + 1, acc, v, [], _, h => by simp [u8take] at h
  | k + 1, acc, v, c :: l, r, h => by
    unfold u8take at h
    simp only [List.take_succ_cons, List.cons_append]
    unfold u8take
    split at h
    · rename_i hc; rw [if_pos hc]; exact u8take_take k _ v l r h
    · cases h
theorem u8char_take {l r : List UInt8} {c n : Nat} (h : u8char l = some (c, n)) : u8char (l.take n ++ r) = some (c, n) := by
  have hs := u8char_size h
  cases l with
  | nil => cases h
  | cons b l =>
    obtain ⟨n, rfl⟩ : ∃ m, n = m + 1 := ⟨n - 1, by omega⟩
    simp only [List.take_succ_cons, List.cons_append]
    rw [u8char_cons] at h ⊢
    by_cases h1 : b.toNat < 128
    · rw [if_pos h1] at h ⊢; exact h
    · rw [if_neg h1] at h ⊢
      rcases hh : u8head b.toNat with _ | ⟨k, least, first⟩
      · rw [hh] at h; cases h
      · rw [hh] at h
        simp only at h ⊢
        rcases ht : u8take k first l with _ | v'
        · rw [ht] at h; cases h
        · rw [ht] at h
          simp only at h
          split at h
          · rename_i hok
            simp only [Option.some.injEq, Prod.mk.injEq] at h
            obtain ⟨rfl, hk⟩ := h
            obtain rfl : k = n := by omega
            rw [u8take_take _ _ _ _ r ht]
            simp only
            rw [if_pos hok]
          · cases h
theorem cont_eq {d : UInt8} {x : Nat} (h : contB d = true) (hx : x = 128 + d.toNat % 64) : UInt8.ofNat x = d := by
  unfold contB at h
  simp at h
  have := d.toNat_lt
  have : x = d.toNat := by omega
  rw [this]; simp
theorem head_eq {d : UInt8} {x : Nat} (hx : x = d.toNat) : UInt8.ofNat x = d := by rw [hx]; simp
theorem encU_back {l : List UInt8} {c n : Nat} (h : u8char l = some (c, n)) : encU c = l.take n := by
  cases l with
  | nil => cases h
  | cons b l =>
    rw [u8char_cons] at h
    by_cases h1 : b.toNat < 128
    · rw [if_pos h1] at h
      cases h
      unfold encU; rw [if_pos h1, head_eq rfl]; rfl
    · rw [if_neg h1] at h
      rcases hh : u8head b.toNat with _ | ⟨k, least, first⟩
      · rw [hh] at h; cases h
      · rw [hh] at h
        simp only at h
        rcases ht : u8take k first l with _ | v'
        · rw [ht] at h; cases h
        · rw [ht] at h
          simp only at h
          split at h
          · rename_i hok
            simp only [Option.some.injEq, Prod.mk.injEq] at h
            obtain ⟨rfl, rfl⟩ := h
            have hb := b.toNat_lt
            unfold u8ok at hok
            simp at hok
            unfold u8head at hh
            by_cases g1 : 194 ≤ b.toNat ∧ b.toNat < 224
            · rw [if_pos g1] at hh
              simp only [Option.some.injEq, Prod.mk.injEq] at hh
              obtain ⟨rfl, rfl, rfl⟩ := hh
              match l, ht with
              | d :: l, ht =>
                simp only [u8take] at ht
                split at ht
                · rename_i hd
                  simp only [Option.some.injEq] at ht
                  have hd' := Nat.mod_lt d.toNat (show 64 > 0 by decide)
                  unfold encU
                  rw [if_neg (by omega), if_pos (by omega), head_eq (d := b) (by omega), cont_eq hd (by omega)]; rfl
                · cases ht
            · rw [if_neg g1] at hh
              by_cases g2 : 224 ≤ b.toNat ∧ b.toNat < 240
              · rw [if_pos g2] at hh
                simp only [Option.some.injEq, Prod.mk.injEq] at hh
                obtain ⟨rfl, rfl, rfl⟩ := hh
                match l, ht with
                | d :: e :: l, ht =>
                  simp only [u8take] at ht
                  split at ht
                  · rename_i hd
                    split at ht
                    · rename_i he
                      simp only [Option.some.injEq] at ht
                      have hd' := Nat.mod_lt d.toNat (show 64 > 0 by decide)
                      have he' := Nat.mod_lt e.toNat (show 64 > 0 by decide)
                      unfold encU
                      rw [if_neg (by omega), if_neg (by omega), if_pos (by omega), head_eq (d := b) (by omega), cont_eq hd (by omega), cont_eq he (by omega)]; rfl
                    · cases ht
                  · cases ht
                | [d], ht =>
                  simp only [u8take] at ht
                  split at ht <;> cases ht
              · rw [if_neg g2] at hh
                by_cases g3 : 240 ≤ b.toNat ∧ b.toNat < 245
                · rw [if_pos g3] at hh
                  simp only [Option.some.injEq, Prod.mk.injEq] at hh
                  obtain ⟨rfl, rfl, rfl⟩ := hh
                  match l, ht with
                  | d :: e :: f :: l, ht =>
                    simp only [u8take] at ht
                    split at ht
                    · rename_i hd
                      split at ht
                      · rename_i he
                        split at ht
                        · rename_i hf
                          simp only [Option.some.injEq] at ht
                          have hd' := Nat.mod_lt d.toNat (show 64 > 0 by decide)
                          have he' := Nat.mod_lt e.toNat (show 64 > 0 by decide)
                          have hf' := Nat.mod_lt f.toNat (show 64 > 0 by decide)
                          unfold encU
                          rw [if_neg (by omega), if_neg (by omega), if_neg (by omega), head_eq (d := b) (by omega), cont_eq hd (by omega), cont_eq he (by omega), cont_eq hf (by omega)]; rfl
                        · cases ht
                      · cases ht
                    · cases ht
                  | [d], ht =>
                    simp only [u8take] at ht
                    split at ht <;> cases ht
                  | [d, e], ht =>
                    simp only [u8take] at ht
                    repeat' split at ht
                    all_goals cases ht
                · rw [if_neg g3] at hh; cases hh
          · cases h
end Go.Proofs.YtgdnpnipahegaaaDoor
