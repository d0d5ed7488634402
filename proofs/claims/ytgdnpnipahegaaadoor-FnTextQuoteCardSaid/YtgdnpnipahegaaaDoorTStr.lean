/-
  The package's reader of a quoted string of the text form, as plain functions.
-/
import Derived.Test.YtgdnpnipahegaaaDoorDHexPlain
import Derived.Test.YtgdnpnipahegaaaDoorDDecode
import Derived.Test.YtgdnpnipahegaaaDoorUtf8Enc
namespace Go.Proofs.YtgdnpnipahegaaaDoor

def surrT (v : Nat) : Bool := decide (55296 ≤ v) && decide (v < 57344)
def pairT (v u : Nat) : Nat := if 55296 ≤ v ∧ v < 56320 ∧ 56320 ≤ u ∧ u < 57344 then (v - 55296) * 1024 + (u - 56320) + 65536 else 65533
def isOct (c : UInt8) : Bool := decide (48 ≤ c.toNat) && decide (c.toNat ≤ 55)
def isHex (c : UInt8) : Bool := decide (48 ≤ c.toNat) && decide (c.toNat ≤ 57) || (decide (97 ≤ c.toNat) && decide (c.toNat ≤ 102) || decide (65 ≤ c.toNat) && decide (c.toNat ≤ 70))
/-- how many bytes at the beginning are so -/
def runN (p : UInt8 → Bool) : List UInt8 → Nat
  | [] => 0
  | c :: l => if p c then runN p l + 1 else 0
theorem runN_cons (p : UInt8 → Bool) (c : UInt8) (l : List UInt8) : runN p (c :: l) = if p c then runN p l + 1 else 0 := rfl
theorem runN_le (p : UInt8 → Bool) : ∀ l, runN p l ≤ l.length
  | [] => Nat.le_refl _
  | c :: l => by rw [runN_cons]; split <;> simp; exact runN_le p l
theorem runN_all (p : UInt8 → Bool) : ∀ (l : List UInt8), ∀ c ∈ l.take (runN p l), p c = true
  | [], c, h => by simp at h
  | d :: l, c, h => by
    rw [runN_cons] at h
    split at h
    · rename_i hd
      rw [List.take_succ_cons, List.mem_cons] at h
      rcases h with rfl | h
      · exact hd
      · exact runN_all p l c h
    · simp at h
/-- digits of base 8 -/
def octV : Nat → List UInt8 → Nat
  | acc, [] => acc
  | acc, c :: l => octV (acc * 8 + (c.toNat - 48)) l
/-- what a letter behind a backslash stands for; 0: nothing -/
def escT1 (c : Nat) : Nat := if c = 34 ∨ c = 39 ∨ c = 92 ∨ c = 63 then c else if c = 97 then 7 else if c = 98 then 8 else if c = 110 then 10 else if c = 114 then 13 else if c = 116 then 9 else if c = 118 then 11 else if c = 102 then 12 else 0
/-- a backslash, a letter and d digits of base 16, or two such for one character -/
def uniT (d : Nat) (l : List UInt8) : Option (List UInt8 × Nat) :=
  if l.length < d + 2 then none else match hexN 0 ((l.drop 2).take d) with
  | none => none
  | some v => if 1114111 < v then none else if surrT v = false then some (encU v, d + 2)
    else if l.length < d + 8 then none
    else match hexN 0 ((l.drop (d + 4)).take 4) with
    | none => none
    | some u => if (l.getD (d + 2) 0).toNat = 92 ∧ (l.getD (d + 3) 0).toNat = 117 ∧ pairT v u ≠ 65533 then some (encU (pairT v u), d + 8) else none
def octT (l : List UInt8) : Option (List UInt8 × Nat) := if 255 < octV 0 (l.take (min 3 (runN isOct l))) then none else some ([UInt8.ofNat (octV 0 (l.take (min 3 (runN isOct l))))], 1 + min 3 (runN isOct l))
def hexT2 (l : List UInt8) : Option (List UInt8 × Nat) := if runN isHex l = 0 then none else match hexN 0 (l.take (min 2 (runN isHex l))) with
  | none => none
  | some v => some ([UInt8.ofNat v], 2 + min 2 (runN isHex l))
/-- an escape, from the backslash on: the bytes that it stands for, and how many it has -/
def escT : List UInt8 → Option (List UInt8 × Nat)
  | b :: c :: l => if escT1 c.toNat ≠ 0 then some ([UInt8.ofNat (escT1 c.toNat)], 2) else if isOct c then octT (c :: l) else if c.toNat = 120 then hexT2 l
    else if c.toNat = 117 then uniT 4 (b :: c :: l) else if c.toNat = 85 then uniT 8 (b :: c :: l) else none
  | _ => none
theorem escT_cons (b c : UInt8) (l : List UInt8) : escT (b :: c :: l) = if escT1 c.toNat ≠ 0 then some ([UInt8.ofNat (escT1 c.toNat)], 2) else if isOct c then octT (c :: l) else if c.toNat = 120 then hexT2 l
    else if c.toNat = 117 then uniT 4 (b :: c :: l) else if c.toNat = 85 then uniT 8 (b :: c :: l) else none := rfl
theorem encU_le4 (v : Nat) : (encU v).length ≤ 4 := by
  unfold encU
  split
  · exact (by decide : 1 ≤ 4)
  · split
    · exact (by decide : 2 ≤ 4)
    · split
      · exact (by decide : 3 ≤ 4)
      · exact (by decide : 4 ≤ 4)
theorem uniT_size {d : Nat} {l b : List UInt8} {n : Nat} (h : uniT d l = some (b, n)) : (2 ≤ n ∧ n ≤ l.length) ∧ b.length ≤ 4 := by
  unfold uniT at h
  by_cases h1 : l.length < d + 2
  · rw [if_pos h1] at h; cases h
  · rw [if_neg h1] at h
    rcases hv : hexN 0 ((l.drop 2).take d) with _ | v
    · rw [hv] at h; cases h
    · rw [hv] at h
      simp only at h
      by_cases h0 : 1114111 < v
      · rw [if_pos h0] at h; cases h
      · rw [if_neg h0] at h
        by_cases h2 : surrT v = false
        · rw [if_pos h2] at h; cases h; exact ⟨by omega, encU_le4 _⟩
        · rw [if_neg h2] at h
          by_cases h3 : l.length < d + 8
          · rw [if_pos h3] at h; cases h
          · rw [if_neg h3] at h
            rcases hu : hexN 0 ((l.drop (d + 4)).take 4) with _ | u
            · rw [hu] at h; cases h
            · rw [hu] at h
              simp only at h
              split at h
              · cases h; exact ⟨by omega, encU_le4 _⟩
              · cases h
theorem octT_size {l b : List UInt8} {n : Nat} (h : octT l = some (b, n)) : (1 ≤ n ∧ n ≤ 1 + l.length) ∧ b.length = 1 := by
  unfold octT at h
  have := runN_le isOct l
  split at h
  · cases h
  · cases h; exact ⟨by omega, rfl⟩
theorem hexT2_size {l b : List UInt8} {n : Nat} (h : hexT2 l = some (b, n)) : (2 ≤ n ∧ n ≤ 2 + l.length) ∧ b.length = 1 := by
  unfold hexT2 at h
  have := runN_le isHex l
  split at h
  · cases h
  · split at h
    · cases h
    · cases h; exact ⟨by omega, rfl⟩
theorem escT_size {l b : List UInt8} {n : Nat} (h : escT l = some (b, n)) : (1 ≤ n ∧ n ≤ l.length) ∧ b.length ≤ 4 := by
  match l, h with
  | a :: c :: l, h =>
    rw [escT_cons] at h
    split at h
    · cases h; exact ⟨by simp, (by decide : 1 ≤ 4)⟩
    · split at h
      · have := octT_size h; simp at this ⊢; omega
      · split at h
        · have := hexT2_size h; simp at this ⊢; omega
        · split at h
          · have := uniT_size h; omega
          · split at h
            · have := uniT_size h; omega
            · cases h

/-- a string behind its first quotation mark: what it stands for, and how many bytes are left behind it -/
def strTF (q : Nat) : Nat → List UInt8 → List UInt8 → Option (List UInt8 × Nat)
  | 0, _, _ => none
  | f + 1, l, out => match u8char l with
    | none => none
    | some (c, n) => if c = 0 ∨ c = 10 then none else if c = q then some (out, l.length - 1)
      else if c = 92 then (match escT l with
        | none => none
        | some (b, m) => strTF q f (l.drop m) (out ++ b))
      else strTF q f (l.drop n) (out ++ l.take n)
def strT (q : Nat) (l out : List UInt8) : Option (List UInt8 × Nat) := strTF q l.length l out
theorem strTF_fuel (q : Nat) : ∀ (f g : Nat) (l out : List UInt8), l.length ≤ f → l.length ≤ g → strTF q f l out = strTF q g l out
  | 0, 0, _, _, _, _ => rfl
  | 0, g + 1, l, out, h, _ => by
    have : l = [] := List.eq_nil_of_length_eq_zero (by omega)
    subst this; rfl
  | f + 1, 0, l, out, _, h => by
    have : l = [] := List.eq_nil_of_length_eq_zero (by omega)
    subst this; rfl
  | f + 1, g + 1, l, out, hf, hg => by
    unfold strTF
    rcases hu : u8char l with _ | ⟨c, n⟩
    · rfl
    · have hn := u8char_size hu
      simp only
      split
      · rfl
      · split
        · rfl
        · split
          · rcases he : escT l with _ | ⟨b, m⟩
            · rfl
            · have hm := escT_size he
              exact strTF_fuel q f g _ _ (by simp; omega) (by simp; omega)
          · exact strTF_fuel q f g _ _ (by simp; omega) (by simp; omega)
theorem strT_none {q : Nat} {l out : List UInt8} (h : u8char l = none) : strT q l out = none := by
  unfold strT
  cases l with
  | nil => rfl
  | cons c l => rw [List.length_cons, strTF, h]
theorem strT_some {q : Nat} {l out : List UInt8} {c n : Nat} (h : u8char l = some (c, n)) : strT q l out = if c = 0 ∨ c = 10 then none else if c = q then some (out, l.length - 1)
      else if c = 92 then (match escT l with
        | none => none
        | some (b, m) => strT q (l.drop m) (out ++ b))
      else strT q (l.drop n) (out ++ l.take n) := by
  have hn := u8char_size h
  obtain ⟨f, hf⟩ : ∃ f, l.length = f + 1 := ⟨l.length - 1, by omega⟩
  conv => lhs; unfold strT
  rw [hf, strTF, h]
  simp only
  rw [hf]
  split
  · rfl
  · split
    · rfl
    · split
      · rcases he : escT l with _ | ⟨b, m⟩
        · rfl
        · have hm := escT_size he
          exact strTF_fuel q _ _ _ _ (by simp; omega) (Nat.le_refl _)
      · exact strTF_fuel q _ _ _ _ (by simp; omega) (Nat.le_refl _)
theorem strTF_le (q : Nat) : ∀ (f : Nat) (l out s : List UInt8) (m : Nat), strTF q f l out = some (s, m) → m + 1 ≤ l.length ∧ s.length ≤ out.length + 4 * l.length
  | 0, _, _, _, _, h => by cases h
  | f + 1, l, out, s, m, h => by
    unfold strTF at h
    rcases hu : u8char l with _ | ⟨c, n⟩
    · rw [hu] at h; cases h
    · rw [hu] at h
      have hn := u8char_size hu
      simp only at h
      split at h
      · cases h
      · split at h
        · cases h; omega
        · split at h
          · rcases he : escT l with _ | ⟨b, k⟩
            · rw [he] at h; cases h
            · rw [he] at h
              have hk := escT_size he
              have := strTF_le q f _ _ _ _ h
              have hb : b.length ≤ 4 * k := by omega
              simp only [List.length_append, List.length_drop] at this
              omega
          · have := strTF_le q f _ _ _ _ h
            simp only [List.length_append, List.length_drop, List.length_take] at this
            omega
theorem strT_le {q : Nat} {l out s : List UInt8} {m : Nat} (h : strT q l out = some (s, m)) : m + 1 ≤ l.length ∧ s.length ≤ out.length + 4 * l.length := strTF_le q _ _ _ _ _ h
/-- bytes that need no escape -/
def plainC (c : UInt8) : Bool := !(decide (c.toNat < 32) || (c.toNat == 34 || (c.toNat == 39 || (c.toNat == 92 || decide (127 ≤ c.toNat)))))
def needT (l : List UInt8) : Nat := runN plainC l
/-- what needs no escape stands for itself -/
theorem strT_skip {q : Nat} (hq : q = 34 ∨ q = 39) : ∀ (l out : List UInt8), strT q l out = strT q (l.drop (needT l)) (out ++ l.take (needT l))
  | [], out => by simp
  | c :: l, out => by
    unfold needT
    rw [runN_cons]
    cases hc : plainC c with
    | false => simp
    | true =>
      rw [if_pos rfl]
      unfold plainC at hc
      simp at hc
      have hu : u8char (c :: l) = some (c.toNat, 1) := by rw [u8char_cons, if_pos (by omega)]
      rw [strT_some hu, if_neg (by omega), if_neg (by omega), if_neg (by omega)]
      rw [List.drop_succ_cons, List.take_succ_cons, List.drop_succ_cons, List.drop_zero, List.take_succ_cons, List.take_zero]
      rw [strT_skip hq l (out ++ [c])]
      unfold needT
      simp
end Go.Proofs.YtgdnpnipahegaaaDoor
