/-
  The package's reader of JSON, as plain functions: white space, a string, the next token, Read.
-/
import Derived.Test.YtjkmmhnhhiopiaaDoorDHexPlain
import Derived.Test.YtjkmmhnhhiopiaaDoorDNumPlain
import Derived.Test.YtjkmmhnhhiopiaaDoorUtf8Enc
namespace Go.Proofs.YtjkmmhnhhiopiaaDoor

/-- white space -/
def wsC (c : UInt8) : Bool := c.toNat == 32 || c.toNat == 10 || c.toNat == 13 || c.toNat == 9
def wsN : List UInt8 → Nat
  | [] => 0
  | c :: l => if wsC c then wsN l + 1 else 0
theorem wsN_le : ∀ l, wsN l ≤ l.length
  | [] => Nat.le_refl _
  | c :: l => by unfold wsN; split <;> simp; exact wsN_le l
theorem wsN_cons (c : UInt8) (l : List UInt8) : wsN (c :: l) = if wsC c then wsN l + 1 else 0 := rfl

/-- what a letter behind a backslash stands for; 0: nothing -/
def escC (c : Nat) : Nat := if c = 34 ∨ c = 92 ∨ c = 47 then c else if c = 98 then 8 else if c = 102 then 12 else if c = 110 then 10 else if c = 114 then 13 else if c = 116 then 9 else 0
def surrB (v : Nat) : Bool := decide (55296 ≤ v) && decide (v < 57344)
def pairR (v u : Nat) : Nat := if 55296 ≤ v ∧ v < 56320 ∧ 56320 ≤ u ∧ u < 57344 then (v - 55296) * 1024 + (u - 56320) + 65536 else 65533
/-- '\u' and four digits, or two such for one character -/
def escU (l : List UInt8) : Option (List UInt8 × Nat) :=
  if l.length < 6 then none else match hexN 0 ((l.drop 2).take 4) with
  | none => none
  | some v => if surrB v = false then some (encU v, 6)
    else if l.length < 12 then none
    else match hexN 0 ((l.drop 8).take 4) with
    | none => none
    | some u => if (l.getD 6 0).toNat = 92 ∧ (l.getD 7 0).toNat = 117 ∧ pairR v u ≠ 65533 then some (encU (pairR v u), 12) else none
/-- an escape, from the backslash on: the bytes that it stands for, and how many it has -/
def escJ : List UInt8 → Option (List UInt8 × Nat)
  | b :: c :: l => if c.toNat = 117 then escU (b :: c :: l) else if escC c.toNat = 0 then none else some ([UInt8.ofNat (escC c.toNat)], 2)
  | _ => none
theorem encU_le (v : Nat) : (encU v).length ≤ 4 := by
  unfold encU
  split
  · exact (by decide : 1 ≤ 4)
  · split
    · exact (by decide : 2 ≤ 4)
    · split
      · exact (by decide : 3 ≤ 4)
      · exact (by decide : 4 ≤ 4)
theorem escU_size {l b : List UInt8} {n : Nat} (h : escU l = some (b, n)) : (1 ≤ n ∧ n ≤ l.length) ∧ b.length ≤ 4 := by
  unfold escU at h
  by_cases h1 : l.length < 6
  · rw [if_pos h1] at h; cases h
  · rw [if_neg h1] at h
    rcases hv : hexN 0 ((l.drop 2).take 4) with _ | v
    · rw [hv] at h; cases h
    · rw [hv] at h
      simp only at h
      by_cases h2 : surrB v = false
      · rw [if_pos h2] at h; cases h; exact ⟨by omega, encU_le _⟩
      · rw [if_neg h2] at h
        by_cases h3 : l.length < 12
        · rw [if_pos h3] at h; cases h
        · rw [if_neg h3] at h
          rcases hu : hexN 0 ((l.drop 8).take 4) with _ | u
          · rw [hu] at h; cases h
          · rw [hu] at h
            simp only at h
            split at h
            · cases h; exact ⟨by omega, encU_le _⟩
            · cases h
theorem escJ_cons (a c : UInt8) (l : List UInt8) : escJ (a :: c :: l) = if c.toNat = 117 then escU (a :: c :: l) else if escC c.toNat = 0 then none else some ([UInt8.ofNat (escC c.toNat)], 2) := rfl
theorem escJ_size {l b : List UInt8} {n : Nat} (h : escJ l = some (b, n)) : (1 ≤ n ∧ n ≤ l.length) ∧ b.length ≤ 4 := by
  match l, h with
  | a :: c :: l, h =>
    rw [escJ_cons] at h
    split at h
    · exact escU_size h
    · split at h
      · cases h
      · injection h with h; injection h with h1 h2; subst h1 h2; exact ⟨by simp, (by decide : 1 ≤ 4)⟩

/-- a string behind its first quotation mark: what it stands for, and how many bytes are left behind it -/
def strL : Nat → List UInt8 → List UInt8 → Option (List UInt8 × Nat)
  | 0, _, _ => none
  | f + 1, l, out => match u8char l with
    | none => none
    | some (c, n) => if c = 34 then some (out, l.length - 1) else if c < 32 then none
      else if c = 92 then (match escJ l with
        | none => none
        | some (b, m) => strL f (l.drop m) (out ++ b))
      else strL f (l.drop n) (out ++ l.take n)
def strA (l out : List UInt8) : Option (List UInt8 × Nat) := strL l.length l out
theorem strL_fuel : ∀ (f g : Nat) (l out : List UInt8), l.length ≤ f → l.length ≤ g → strL f l out = strL g l out
  | 0, 0, _, _, _, _ => rfl
  | 0, g + 1, l, out, h, _ => by
    have : l = [] := List.eq_nil_of_length_eq_zero (by omega)
    subst this; rfl
  | f + 1, 0, l, out, _, h => by
    have : l = [] := List.eq_nil_of_length_eq_zero (by omega)
    subst this; rfl
  | f + 1, g + 1, l, out, hf, hg => by
    unfold strL
    rcases hu : u8char l with _ | ⟨c, n⟩
    · rfl
    · have hn := u8char_size hu
      simp only
      split
      · rfl
      · split
        · rfl
        · split
          · rcases he : escJ l with _ | ⟨b, m⟩
            · rfl
            · have hm := escJ_size he
              exact strL_fuel f g _ _ (by simp; omega) (by simp; omega)
          · exact strL_fuel f g _ _ (by simp; omega) (by simp; omega)
theorem strA_none {l out : List UInt8} (h : u8char l = none) : strA l out = none := by
  unfold strA
  cases l with
  | nil => rfl
  | cons c l => rw [List.length_cons, strL, h]
theorem strA_some {l out : List UInt8} {c n : Nat} (h : u8char l = some (c, n)) : strA l out = if c = 34 then some (out, l.length - 1) else if c < 32 then none
      else if c = 92 then (match escJ l with
        | none => none
        | some (b, m) => strA (l.drop m) (out ++ b))
      else strA (l.drop n) (out ++ l.take n) := by
  have hn := u8char_size h
  obtain ⟨f, hf⟩ : ∃ f, l.length = f + 1 := ⟨l.length - 1, by omega⟩
  conv => lhs; unfold strA
  rw [hf, strL, h]
  simp only
  rw [hf]
  split
  · rfl
  · split
    · rfl
    · split
      · rcases he : escJ l with _ | ⟨b, m⟩
        · rfl
        · have hm := escJ_size he
          exact strL_fuel _ _ _ _ (by simp; omega) (Nat.le_refl _)
      · exact strL_fuel _ _ _ _ (by simp; omega) (Nat.le_refl _)
theorem strL_le : ∀ (f : Nat) (l out s : List UInt8) (m : Nat), strL f l out = some (s, m) → m + 1 ≤ l.length ∧ s.length ≤ out.length + 4 * l.length
  | 0, _, _, _, _, h => by cases h
  | f + 1, l, out, s, m, h => by
    unfold strL at h
    rcases hu : u8char l with _ | ⟨c, n⟩
    · rw [hu] at h; cases h
    · rw [hu] at h
      have hn := u8char_size hu
      simp only at h
      split at h
      · cases h; omega
      · split at h
        · cases h
        · split at h
          · rcases he : escJ l with _ | ⟨b, k⟩
            · rw [he] at h; cases h
            · rw [he] at h
              have hk := escJ_size he
              have := strL_le f _ _ _ _ h
              have hb : b.length ≤ 4 * k := by omega
              simp only [List.length_append, List.length_drop] at this
              omega
          · have := strL_le f _ _ _ _ h
            simp only [List.length_append, List.length_drop, List.length_take] at this
            omega
/-- A string with its quotation marks. -/
def strJ : List UInt8 → Option (List UInt8 × Nat)
  | [] => none
  | _ :: r => match strA r [] with
    | none => none
    | some (s, m) => some (s, r.length + 1 - m)
theorem strJ_cons (c : UInt8) (r : List UInt8) : strJ (c :: r) = match strA r [] with
    | none => none
    | some (s, m) => some (s, r.length + 1 - m) := rfl
theorem strJ_le {l s : List UInt8} {n : Nat} (h : strJ l = some (s, n)) : 2 ≤ n ∧ n ≤ l.length ∧ s.length ≤ 4 * l.length := by
  cases l with
  | nil => cases h
  | cons c r =>
    rw [strJ_cons] at h
    rcases hs : strA r [] with _ | ⟨t, m⟩
    · rw [hs] at h; cases h
    · rw [hs] at h
      have := strL_le _ _ _ _ _ hs
      simp only [List.length_nil] at this
      cases h
      simp only [List.length_cons]
      omega
theorem chr_u8 {l : List UInt8} {c n : Nat} (h : chr l = (c, n)) (hc : ¬ (c = 65533 ∧ n = 1)) : u8char l = some (c, n) := by
  unfold chr at h
  rcases hu : u8char l with _ | ⟨c', n'⟩
  · rw [hu] at h; simp only [Prod.mk.injEq] at h; exact absurd ⟨h.1.symm, h.2.symm⟩ hc
  · rw [hu] at h; simp only [Prod.mk.injEq] at h; rw [h.1, h.2]
/-- what needs no escape stands for itself -/
theorem strA_skip : ∀ (f : Nat) (l out : List UInt8), strA l out = strA (l.drop (needN f l)) (out ++ l.take (needN f l))
  | 0, l, out => by unfold needN; simp
  | f + 1, l, out => by
    unfold needN
    by_cases h0 : l = []
    · rw [if_pos h0]; simp
    · rw [if_neg h0]
      rcases hc : chr l with ⟨c, n⟩
      simp only
      cases hs : stopC c with
      | true => simp
      | false =>
        rw [if_neg (by simp)]
        have hs' := hs
        unfold stopC at hs'
        simp at hs'
        have hu := chr_u8 hc (fun h => hs'.2 h.1)
        have hn := u8char_size hu
        rw [strA_some hu, if_neg (by omega), if_neg (by omega), if_neg (by omega)]
        rw [strA_skip f (l.drop n) (out ++ l.take n), List.drop_drop, List.append_assoc]
        congr 2
        rw [List.take_add]

structure TK where
  kind : Nat
  pos : Nat
  raw : List UInt8
  tru : Bool
  str : List UInt8

/-- a word, and no letter behind it -/
def wordD (s l : List UInt8) : Bool := s.isPrefixOf l && (match l.drop s.length with
  | [] => true
  | c :: _ => !notDel c)
/-- the token at the beginning: its kind, how many bytes it has, what it stands for -/
def nextJ : List UInt8 → Option (Nat × Nat × Bool × List UInt8)
  | [] => some (1, 0, false, [])
  | c :: l =>
    if c.toNat = 110 then (if wordD [110, 117, 108, 108] (c :: l) then some (2, 4, false, []) else none)
    else if c.toNat = 116 then (if wordD [116, 114, 117, 101] (c :: l) then some (4, 4, true, []) else none)
    else if c.toNat = 102 then (if wordD [102, 97, 108, 115, 101] (c :: l) then some (4, 5, false, []) else none)
    else if c.toNat = 45 ∨ isDg c = true then (match numJ (c :: l) with
      | none => none
      | some n => some (8, n, false, []))
    else if c.toNat = 34 then (match strJ (c :: l) with
      | none => none
      | some (s, n) => some (16, n, false, s))
    else if c.toNat = 123 then some (64, 1, false, [])
    else if c.toNat = 125 then some (128, 1, false, [])
    else if c.toNat = 91 then some (256, 1, false, [])
    else if c.toNat = 93 then some (512, 1, false, [])
    else if c.toNat = 44 then some (1024, 1, false, [])
    else none
theorem wordD_len {s l : List UInt8} (h : wordD s l = true) : s.length ≤ l.length := by
  unfold wordD at h
  rw [Bool.and_eq_true] at h
  have := List.isPrefixOf_iff_prefix.1 h.1
  exact this.length_le
theorem nextJ_cons (c : UInt8) (l : List UInt8) : nextJ (c :: l) =
    if c.toNat = 110 then (if wordD [110, 117, 108, 108] (c :: l) then some (2, 4, false, []) else none)
    else if c.toNat = 116 then (if wordD [116, 114, 117, 101] (c :: l) then some (4, 4, true, []) else none)
    else if c.toNat = 102 then (if wordD [102, 97, 108, 115, 101] (c :: l) then some (4, 5, false, []) else none)
    else if c.toNat = 45 ∨ isDg c = true then (match numJ (c :: l) with
      | none => none
      | some n => some (8, n, false, []))
    else if c.toNat = 34 then (match strJ (c :: l) with
      | none => none
      | some (s, n) => some (16, n, false, s))
    else if c.toNat = 123 then some (64, 1, false, [])
    else if c.toNat = 125 then some (128, 1, false, [])
    else if c.toNat = 91 then some (256, 1, false, [])
    else if c.toNat = 93 then some (512, 1, false, [])
    else if c.toNat = 44 then some (1024, 1, false, [])
    else none := rfl
/-- the tokens' kinds, and how many bytes they have -/
theorem nextJ_ok {l : List UInt8} {kd n : Nat} {b : Bool} {t : List UInt8} (h : nextJ l = some (kd, n, b, t)) :
    n ≤ l.length ∧ (kd = 1 ∧ n = 0 ∧ l = [] ∨ 1 ≤ n ∧ (kd = 2 ∨ kd = 4 ∨ kd = 8 ∨ kd = 16 ∨ kd = 64 ∨ kd = 128 ∨ kd = 256 ∨ kd = 512 ∨ kd = 1024)) := by
  cases l with
  | nil => cases h; simp
  | cons c l =>
    rw [nextJ_cons] at h
    have one : ∀ {k : Nat}, (k = 2 ∨ k = 4 ∨ k = 8 ∨ k = 16 ∨ k = 64 ∨ k = 128 ∨ k = 256 ∨ k = 512 ∨ k = 1024) → some (k, 1, false, ([] : List UInt8)) = some (kd, n, b, t) → n ≤ (c :: l).length ∧ (kd = 1 ∧ n = 0 ∧ (c :: l) = [] ∨ 1 ≤ n ∧ (kd = 2 ∨ kd = 4 ∨ kd = 8 ∨ kd = 16 ∨ kd = 64 ∨ kd = 128 ∨ kd = 256 ∨ kd = 512 ∨ kd = 1024)) := by
      intro k hk he
      simp only [Option.some.injEq, Prod.mk.injEq] at he
      obtain ⟨rfl, rfl, _, _⟩ := he
      exact ⟨by simp, .inr ⟨Nat.le_refl _, hk⟩⟩
    have word : ∀ {s : List UInt8} {k m : Nat} {b' : Bool}, s.length = m → 1 ≤ m → (k = 2 ∨ k = 4) → (if wordD s (c :: l) then some (k, m, b', ([] : List UInt8)) else none) = some (kd, n, b, t) → n ≤ (c :: l).length ∧ (kd = 1 ∧ n = 0 ∧ (c :: l) = [] ∨ 1 ≤ n ∧ (kd = 2 ∨ kd = 4 ∨ kd = 8 ∨ kd = 16 ∨ kd = 64 ∨ kd = 128 ∨ kd = 256 ∨ kd = 512 ∨ kd = 1024)) := by
      intro s k m b' hs hm hk he
      by_cases hw : wordD s (c :: l) = true
      · rw [if_pos hw] at he
        have := wordD_len hw
        simp only [Option.some.injEq, Prod.mk.injEq] at he
        obtain ⟨rfl, rfl, _, _⟩ := he
        exact ⟨by omega, .inr ⟨hm, by omega⟩⟩
      · rw [if_neg hw] at he; cases he
    split at h
    · exact word rfl (by decide) (by decide) h
    · split at h
      · exact word rfl (by decide) (by decide) h
      · split at h
        · exact word rfl (by decide) (by decide) h
        · split at h
          · rcases hn : numJ (c :: l) with _ | m
            · rw [hn] at h; cases h
            · rw [hn] at h
              have := numJ_le hn
              simp only [Option.some.injEq, Prod.mk.injEq] at h
              obtain ⟨rfl, rfl, _, _⟩ := h
              exact ⟨this.2, .inr ⟨this.1, by decide⟩⟩
          · split at h
            · rcases hn : strJ (c :: l) with _ | ⟨s, m⟩
              · rw [hn] at h; cases h
              · rw [hn] at h
                have := strJ_le hn
                simp only [Option.some.injEq, Prod.mk.injEq] at h
                obtain ⟨rfl, rfl, _, _⟩ := h
                exact ⟨this.2.1, .inr ⟨by omega, by decide⟩⟩
            · repeat' split at h
              all_goals first
                | exact one (by decide) h
                | cases h

structure DS where
  peeked : Bool
  tok : TK
  bad : Bool
  st : List Nat
  k : Nat

/-- may a value come? -/
def valN (st : List Nat) (last : Nat) : Bool := match st.getLast? with
  | none => last == 0
  | some t => if t = 64 then last == 32 else last == 256 || last == 1024
def kindsJ : List Nat := [0, 1, 2, 4, 8, 16, 32, 64, 128, 256, 512, 1024]
/-- behind n more bytes and white space -/
def goN (bs : List UInt8) (k n : Nat) : Nat := k + n + wsN (bs.drop (k + n))
/-- Read where nothing was looked at ahead, and the comma not yet gone over: the new state, false: an error -/
def readC (bs : List UInt8) (s : DS) : DS × Bool :=
  let k1 := goN bs s.k 0
  match nextJ (bs.drop k1) with
  | none => ({ s with peeked := false, k := k1 }, false)
  | some (kd, n, b, t) =>
    let k2 := goN bs k1 n
    let tok : TK := ⟨kd, k1, (bs.drop k1).take n, b, t⟩
    let er : DS × Bool := ({ s with peeked := false, k := k2 }, false)
    let ok (st : List Nat) : DS × Bool := (⟨false, tok, s.bad, st, k2⟩, true)
    if kd = 1 then (if s.st = [] then ok s.st else er)
    else if kd = 2 ∨ kd = 4 ∨ kd = 8 then (if valN s.st s.tok.kind then ok s.st else er)
    else if kd = 16 then (if valN s.st s.tok.kind then ok s.st else if s.tok.kind = 64 ∨ s.tok.kind = 1024 then (match bs.drop k2 with
      | c :: _ => if c.toNat = 58 then (⟨false, { tok with kind := 32 }, s.bad, s.st, goN bs k2 1⟩, true) else er
      | [] => er) else er)
    else if kd = 64 ∨ kd = 256 then (if valN s.st s.tok.kind then ok (s.st ++ [kd]) else er)
    else if kd = 128 then (if s.st.getLast? = some 64 ∧ s.tok.kind ≠ 32 ∧ s.tok.kind ≠ 1024 then ok s.st.dropLast else er)
    else if kd = 512 then (if s.st.getLast? = some 256 ∧ s.tok.kind ≠ 1024 then ok s.st.dropLast else er)
    else (if s.st ≠ [] ∧ (s.tok.kind = 2 ∨ s.tok.kind = 4 ∨ s.tok.kind = 8 ∨ s.tok.kind = 16 ∨ s.tok.kind = 128 ∨ s.tok.kind = 512) then ok s.st else er)
/-- Read: the new state; false: an error -/
def readJ (bs : List UInt8) (s : DS) : DS × Bool :=
  if s.peeked then ({ s with peeked := false }, !s.bad)
  else match readC bs s with
  | (s', false) => (s', false)
  | (s', true) => if s'.tok.kind = 1024 then readC bs s' else (s', true)
end Go.Proofs.YtjkmmhnhhiopiaaDoor
