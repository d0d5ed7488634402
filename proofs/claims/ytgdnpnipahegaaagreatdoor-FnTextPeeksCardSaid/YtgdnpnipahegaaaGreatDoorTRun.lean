/-
 The reader of the text form up to its end: what holds of it always; looking ahead changes nothing of what is read. Plain functions.
-/
import Derived.Test.YtgdnpnipahegaaaGreatDoorTModel
namespace Go.Proofs.YtgdnpnipahegaaaGreatDoor

theorem goT_le {bs : List UInt8} {k n : Nat} (h : k + n ≤ bs.length) : k + n ≤ goT bs k n ∧ goT bs k n ≤ bs.length := by
 have := skT_le false (bs.drop (k + n))
 simp only [List.length_drop] at this
 unfold goT
 omega
structure OkT (bs : List UInt8) (k : Nat) (x : TT × Nat) : Prop where
 pos : x.1.pos = k
 lt : k < x.2
 le : x.2 ≤ bs.length
theorem ok_tok {bs : List UInt8} {k n : Nat} (kd at_ : Nat) (h1 : 1 ≤ n) (h2 : k + n ≤ bs.length) : OkT bs k (tokT bs k kd n at_) := by
 have := goT_le h2
 exact ⟨rfl, by show k < goT bs k n; omega, this.2⟩
theorem ok_sep {bs : List UInt8} {k : Nat} {x : TT × Nat} (h : OkT bs k x) : OkT bs k (sepT bs x) ∧ (sepT bs x).1.kind = x.1.kind := by
 obtain ⟨t, k'⟩ := x
 have h2 := h.lt
 have h3 := h.le
 simp only at h2 h3
 rcases hd : bs.drop k' with _ | ⟨c, r⟩
 ·rw [sepT_nil hd]; exact ⟨h, rfl⟩
 ·rw [sepT_cons hd]
  have hl : k' + 1 ≤ bs.length := by have := congrArg List.length hd; simp at this; omega
  have := goT_le hl
  split
  ·exact ⟨⟨h.pos, by show k < goT bs k' 1; omega, this.2⟩, rfl⟩
  ·exact ⟨h, rfl⟩
theorem numB_le {l : List UInt8} {k n : Nat} (h : numB l = some (k, n)) : n ≤ l.length := by
 have rest : ∀ {kd m k n : Nat} {s : List UInt8}, nRest kd m s = some (k, n) → n ≤ m + s.length := by
  intro kd m k n s h
  unfold nRest at h
  rcases hf : nFrac kd s with _ | ⟨k1, n1⟩
  ·rw [hf] at h; cases h
  ·rw [hf] at h
   simp only at h
   have h1 : n1 ≤ s.length := by
    cases s with
    | nil => cases hf; exact Nat.le_refl _
    | cons c r =>
     have := runN_le isDg r
     rw [nFrac_cons] at hf
     split at hf
     ·split at hf
      ·cases hf
      ·cases hf; simp; omega
     ·cases hf; simp
   rcases he : nExp k1 (s.drop n1) with _ | ⟨k2, n2⟩
   ·rw [he] at h; cases h
   ·rw [he] at h
    simp only at h
    have h2 : n2 ≤ (s.drop n1).length := by
     generalize s.drop n1 = x at he
     match x, he with
     | [], he => cases he; exact Nat.zero_le _
     | [c], he => cases he; exact Nat.zero_le _
     | c :: d :: x, he =>
      have a := runN_le isDg x
      have b := runN_le isDg (d :: x)
      rw [nExp_two] at he
      simp only [List.length_cons] at b ⊢
      split at he
      ·split at he
       ·split at he
        ·cases he
        ·cases he; omega
       ·cases he; omega
      ·cases he; omega
    have h3 : (nSuf k2 (s.drop (n1 + n2))).2 ≤ (s.drop (n1 + n2)).length := by
     generalize s.drop (n1 + n2) = x
     cases x with
     | nil => exact Nat.zero_le _
     | cons c x => rw [nSuf_cons]; split <;> simp
    simp only [List.length_drop] at h2 h3
    split at h
    ·cases h; omega
    ·cases h
 have hex : ∀ {k n : Nat} {s : List UInt8}, nHex s = some (k, n) → n ≤ 2 + s.length := by
  intro k n s h
  have := runN_le isHex s
  unfold nHex at h
  split at h
  ·cases h
  ·split at h
   ·cases h; omega
   ·cases h
 have oct : ∀ {k n : Nat} {s : List UInt8}, nOct s = some (k, n) → n ≤ 2 + s.length := by
  intro k n s h
  have := runN_le isOct s
  unfold nOct at h
  split at h
  ·cases h; omega
  ·cases h
 match l, h with
 | [], h => cases h
 | [c], h =>
  rw [numB_cons] at h
  split at h
  ·have := rest h; simp at this ⊢; omega
  ·split at h
   ·have := rest h; simp [runN] at this ⊢; omega
   ·split at h
    ·have := rest h; simp at this ⊢; omega
    ·cases h
 | c :: d :: r, h =>
  rw [numB_cons] at h
  have := runN_le isDg (d :: r)
  split at h
  ·simp only at h
   split at h
   ·have := hex h; simp; omega
   ·split at h
    ·have := oct h; simp; omega
    ·have := rest h; simp at this ⊢; omega
  ·split at h
   ·have := rest h; simp only [List.length_drop] at this; simp only [List.length_cons] at *; omega
   ·split at h
    ·have := rest h; simp at this ⊢; omega
    ·cases h
theorem numB_pos {l : List UInt8} {k n : Nat} (h : numB l = some (k, n)) : 1 ≤ n := by
 have rest : ∀ {kd m k n : Nat} {s : List UInt8}, nRest kd m s = some (k, n) → m ≤ n := by
  intro kd m k n s h
  unfold nRest at h
  split at h
  ·cases h
  ·split at h
   ·cases h
   ·split at h
    ·cases h; omega
    ·cases h
 have dot : ∀ {k n : Nat} {c : UInt8} {r : List UInt8}, c.toNat = 46 → nRest 4 0 (c :: r) = some (k, n) → 1 ≤ n := by
  intro k n c r hc h
  unfold nRest at h
  rw [nFrac_cons, if_pos hc] at h
  split at h
  ·cases h
  ·rename_i k1 n1 h1
   split at h1
   ·cases h1
   ·cases h1
    split at h
    ·cases h
    ·split at h
     ·cases h; omega
     ·cases h
 have hx : ∀ {k n : Nat} {s : List UInt8}, nHex s = some (k, n) → 1 ≤ n := by
  intro k n s h
  unfold nHex at h
  split at h
  ·cases h
  ·split at h
   ·cases h; omega
   ·cases h
 have ho : ∀ {k n : Nat} {s : List UInt8}, nOct s = some (k, n) → 1 ≤ n := by
  intro k n s h
  unfold nOct at h
  split at h
  ·cases h; omega
  ·cases h
 cases l with
 | nil => cases h
 | cons c r =>
  rw [numB_cons] at h
  split at h
  ·split at h
   ·exact rest h
   ·split at h
    ·exact hx h
    ·split at h
     ·exact ho h
     ·exact rest h
  ·split at h
   ·have := rest h; omega
   ·split at h
    ·rename_i hc; exact dot hc h
    ·cases h
theorem numT_size {l : List UInt8} {x : NT} (h : numT l = some x) : 1 ≤ x.size ∧ x.size ≤ l.length ∧ (x.neg = true → x.sep + 2 ≤ x.size) ∧ (x.neg = false → x.sep = 0) := by
 cases l with
 | nil => cases h
 | cons c r =>
  have hs := skT_le false r
  rw [numT_cons] at h
  split at h
  ·rcases hb : numB (r.drop (skT false r)) with _ | ⟨k, n⟩
   ·rw [hb] at h; cases h
   ·rw [hb] at h
    have h1 := numB_le hb
    have h2 := numB_pos hb
    simp only [List.length_drop] at h1
    cases h
    exact ⟨by simp only; omega, by simp only [List.length_cons]; omega, fun _ => by simp only; omega, fun h => by cases h⟩
  ·rcases hb : numB (c :: r) with _ | ⟨k, n⟩
   ·rw [hb] at h; cases h
   ·rw [hb] at h
    have h1 := numB_le hb
    have h2 := numB_pos hb
    cases h
    exact ⟨h2, h1, (fun h => by cases h), fun _ => rfl⟩
theorem tnF_len : ∀ (f : Nat) (l name n2 r : List UInt8), tnF f l name = some (n2, r) → r.length + 1 ≤ l.length
 | 0, _, _, _, _, h => by cases h
 | f + 1, [], _, _, _, h => by cases h
 | f + 1, c :: l, name, n2, r, h => by
  rw [tnF_cons] at h
  split at h
  ·cases h; simp
  ·split at h
   ·have := tnF_len f _ _ _ _ h
    have := csT_len l
    simp only [List.length_cons]; omega
   ·split at h
    ·match l, h with
     | [], h => cases h
     | [a], h => cases h
     | a :: b :: l2, h =>
      simp only at h
      split at h
      ·have := tnF_len f _ _ _ _ h
       have := csT_len l2
       simp only [List.length_cons]; omega
      ·cases h
    ·cases h
theorem drop_lt {bs : List UInt8} {k : Nat} {c : UInt8} {r : List UInt8} (h : bs.drop k = c :: r) : bs.length = k + r.length + 1 := by
 have := congrArg List.length h
 simp at this
 omega
theorem ok_field {bs : List UInt8} {k : Nat} {x : TT × Nat} (h : fieldT bs k = some x) : OkT bs k x ∧ x.1.kind = 2 := by
 unfold fieldT at h
 rcases hd : bs.drop k with _ | ⟨c, r⟩
 ·rw [hd] at h; cases h
 ·rw [hd] at h
  have hl := drop_lt hd
  simp only [Option.map_eq_some_iff] at h
  obtain ⟨y, hy, rfl⟩ := h
  have key : OkT bs k y ∧ y.1.kind = 2 := by
   split at hy
   ·unfold typeT at hy
    rcases ht : tnF (bs.length + 1) (csT (bs.drop (k + 1))) [] with _ | ⟨name, r2⟩
    ·rw [ht] at hy; cases hy
    ·rw [ht] at hy
     have h1 := tnF_len _ _ _ _ _ ht
     have h2 := csT_len (bs.drop (k + 1))
     simp only [List.length_drop] at h2
     have h3 := goT_le (bs := bs) (k := bs.length - r2.length) (n := 0) (by omega)
     simp only at hy
     split at hy
     ·cases hy
      exact ⟨⟨rfl, by show k < goT bs _ 0; omega, h3.2⟩, rfl⟩
     ·cases hy
   ·split at hy
    ·rename_i hi
     have := identT_le false (c :: r)
     cases hy
     simp only [List.length_cons] at this
     exact ⟨ok_tok _ _ (by omega) (by omega), rfl⟩
    ·rcases hn : numT (c :: r) with _ | x
     ·rw [hn] at hy; cases hy
     ·rw [hn] at hy
      have hs := numT_size hn
      simp only [List.length_cons] at hs
      simp only at hy
      split at hy
      ·cases hy
       exact ⟨ok_tok _ _ (by omega) (by omega), rfl⟩
      ·cases hy
  exact ⟨(ok_sep key.1).1, (ok_sep key.1).2.trans key.2⟩
theorem strsT_le {bs : List UInt8} : ∀ (f k : Nat) (out s : List UInt8) (k' : Nat), strsT bs f k out = some (s, k') → k ≤ bs.length → k ≤ k' ∧ k' ≤ bs.length
 | 0, _, _, _, _, h, _ => by cases h
 | f + 1, k, out, s, k', h, hk => by
  unfold strsT at h
  rcases hd : bs.drop k with _ | ⟨c, r⟩
  ·rw [hd] at h; cases h; exact ⟨Nat.le_refl _, hk⟩
  ·rw [hd] at h
   have hl := drop_lt hd
   simp only at h
   split at h
   ·rcases hs : strT c.toNat r [] with _ | ⟨s1, m⟩
    ·rw [hs] at h; cases h
    ·rw [hs] at h
     have h1 := strT_le hs
     have hg := goT_le (bs := bs) (k := k) (n := r.length + 1 - m) (by omega)
     have := strsT_le f _ _ _ _ h hg.2
     omega
   ·cases h; exact ⟨Nat.le_refl _, hk⟩
theorem ok_scalar {bs : List UInt8} {k : Nat} {x : TT × Nat} (h : scalarT bs k = some x) : OkT bs k x ∧ x.1.kind = 3 := by
 unfold scalarT at h
 rcases hd : bs.drop k with _ | ⟨c, r⟩
 ·rw [hd] at h; cases h
 ·rw [hd] at h
  have hl := drop_lt hd
  simp only at h
  split at h
  ·rename_i hq
   rcases hs : strsT bs (bs.length + 1) k [] with _ | ⟨s, k'⟩
   ·rw [hs] at h; cases h
   ·rw [hs] at h
    cases h
    unfold strsT at hs
    rw [hd] at hs
    simp only at hs
    rw [if_pos hq] at hs
    rcases hz : strT c.toNat r [] with _ | ⟨s1, m⟩
    ·rw [hz] at hs; cases hs
    ·rw [hz] at hs
     have h1 := strT_le hz
     have hg := goT_le (bs := bs) (k := k) (n := r.length + 1 - m) (by omega)
     have := strsT_le _ _ _ _ _ hs hg.2
     exact ⟨⟨rfl, by show k < k'; omega, this.2⟩, rfl⟩
  ·split at h
   ·have := identT_le true (c :: r)
    cases h
    simp only [List.length_cons] at this
    exact ⟨ok_tok _ _ (by omega) (by omega), rfl⟩
   ·rcases hn : numT (c :: r) with _ | x
    ·rw [hn] at h; cases h
    ·rw [hn] at h
     have hs := numT_size hn
     simp only [List.length_cons] at hs
     cases h
     have := goT_le (bs := bs) (k := k) (n := x.size) (by omega)
     exact ⟨⟨rfl, by show k < goT bs k _; omega, this.2⟩, rfl⟩
structure OkN (bs : List UInt8) (last : Nat) (st : List UInt8) (k : Nat) (x : TT × List UInt8 × Nat) : Prop where
 pos : k ≤ x.1.pos
 le : x.2.2 ≤ bs.length
 lt : x.1.kind ≠ 1 → k < x.2.2
 ge : k ≤ x.2.2
 kind : 1 ≤ x.1.kind ∧ x.1.kind ≤ 9
 comma : last = 8 ∨ last = 9 → x.1.kind ≠ 8 ∧ x.1.kind ≠ 9
theorem okN_of {bs : List UInt8} {last : Nat} {st st' : List UInt8} {k : Nat} {y : TT × Nat} {x : TT × List UInt8 × Nat} (hk : k ≤ bs.length) (h : OkT bs (goT bs k 0) y) (he : withSt st' (some y) = some x) (hd : 1 ≤ y.1.kind ∧ y.1.kind ≤ 9) (hc : last = 8 ∨ last = 9 → y.1.kind ≠ 8 ∧ y.1.kind ≠ 9) : OkN bs last st k x := by
 obtain ⟨t, k'⟩ := y
 have hg := goT_le (bs := bs) (k := k) (n := 0) (by omega)
 have h1 := h.pos
 have h2 := h.lt
 have h3 := h.le
 cases he
 simp only at h1 h2 h3 hd hc
 exact ⟨by show k ≤ t.pos; omega, h3, fun _ => by show k < k'; omega, by show k ≤ k'; omega, hd, hc⟩
theorem next_ok {bs : List UInt8} {last : Nat} {st : List UInt8} {k : Nat} {x : TT × List UInt8 × Nat} (h : nextT bs last st k = some x) (hk : k ≤ bs.length) : OkN bs last st k x := by
 have hg := goT_le (bs := bs) (k := k) (n := 0) (by omega)
 have eof : ∀ {x}, withSt st (some (tokT bs (goT bs k 0) 1 0 0)) = some x → OkN bs last st k x := by
  intro x he
  cases he
  have := goT_le (bs := bs) (k := goT bs k 0) (n := 0) (by omega)
  exact ⟨hg.1, this.2, (fun h => absurd rfl h), by show k ≤ goT bs _ 0; omega, ⟨Nat.le_refl _, by show 1 ≤ 9; decide⟩, fun _ => ⟨by show 1 ≠ 8; decide, by show 1 ≠ 9; decide⟩⟩
 have one : ∀ {c : UInt8} {r : List UInt8} {kd : Nat} {st' : List UInt8} {x}, bs.drop (goT bs k 0) = c :: r → 1 ≤ kd ∧ kd ≤ 9 → (last = 8 ∨ last = 9 → kd ≠ 8 ∧ kd ≠ 9) → withSt st' (some (tokT bs (goT bs k 0) kd 1 0)) = some x → OkN bs last st k x := by
  intro c r kd st' x hd h1 h2 he
  have := drop_lt hd
  exact okN_of hk (ok_tok kd 0 (Nat.le_refl _) (by omega)) he h1 h2
 have fld : ∀ {x}, withSt st (fieldT bs (goT bs k 0)) = some x → OkN bs last st k x := by
  intro x he
  rcases hf : fieldT bs (goT bs k 0) with _ | y
  ·rw [hf] at he; cases he
  ·rw [hf] at he
   have := ok_field hf
   exact okN_of hk this.1 he (by omega) (fun _ => by omega)
 have scl : ∀ {x}, withSt st (scalarT bs (goT bs k 0)) = some x → OkN bs last st k x := by
  intro x he
  rcases hf : scalarT bs (goT bs k 0) with _ | y
  ·rw [hf] at he; cases he
  ·rw [hf] at he
   have := ok_scalar hf
   exact okN_of hk this.1 he (by omega) (fun _ => by omega)
 have top : ∀ {b : Bool} {x}, (b = true → ¬ (last = 8 ∨ last = 9)) → inTop bs b st (goT bs k 0) = some x → OkN bs last st k x := by
  intro b x hb he
  unfold inTop at he
  split at he
  ·exact eof he
  ·rename_i c r hd
   split at he
   ·rename_i hc; exact one hd (by decide) (fun h => absurd h (hb hc.1)) he
   ·split at he
    ·rename_i hc; exact one hd (by decide) (fun h => absurd h (hb hc.1)) he
    ·exact fld he
 have msg : ∀ {b : Bool} {x}, (b = true → ¬ (last = 8 ∨ last = 9)) → inMsg bs b st (goT bs k 0) = some x → OkN bs last st k x := by
  intro b x hb he
  unfold inMsg at he
  split at he
  ·cases he
  ·rename_i c r hd
   split at he
   ·exact one hd (by decide) (fun _ => by decide) he
   ·split at he
    ·cases he
    ·split at he
     ·rename_i hc; exact one hd (by decide) (fun h => absurd h (hb hc.1)) he
     ·split at he
      ·rename_i hc; exact one hd (by decide) (fun h => absurd h (hb hc.1)) he
      ·exact fld he
 have val : ∀ {l b : Bool} {x}, value1 bs l b st (goT bs k 0) = some x → OkN bs last st k x := by
  intro l b x he
  unfold value1 at he
  split at he
  ·cases he
  ·rename_i c r hd
   split at he
   ·exact one hd (by decide) (fun _ => by decide) he
   ·split at he
    ·exact one hd (by decide) (fun _ => by decide) he
    ·split at he
     ·exact one hd (by decide) (fun _ => by decide) he
     ·exact scl he
 unfold nextT at h
 simp only at h
 split at h
 ·exact eof h
 ·split at h
  ·exact top (by simp) h
  ·split at h
   ·exact val h
   ·split at h
    ·exact msg (by simp) h
    ·split at h
     ·exact val h
     ·split at h
      ·split at h
       ·exact top (by simp) h
       ·split at h
        ·exact msg (by simp) h
        ·exact val h
      ·rename_i hn
       split at h
       ·exact top (fun _ => hn) h
       ·split at h
        ·exact msg (fun _ => hn) h
        ·unfold inList at h
         split at h
         ·cases h
         ·rename_i c r hd
          split at h
          ·exact one hd (by decide) (fun h => absurd h hn) h
          ·split at h
           ·exact one hd (by decide) (fun h => absurd h hn) h
           ·cases h
theorem step_ok {bs : List UInt8} {s s' : DT} (h : stepT bs s = some s') (hk : s.k ≤ bs.length) :
  s'.peeked = false ∧ s'.bad = s.bad ∧ s'.k ≤ bs.length ∧ s.k ≤ s'.k ∧ (s'.tok.kind ≠ 1 → s.k < s'.k) ∧ (1 ≤ s'.tok.kind ∧ s'.tok.kind ≤ 9) ∧ (s.tok.kind = 8 ∨ s.tok.kind = 9 → s'.tok.kind ≠ 8 ∧ s'.tok.kind ≠ 9) := by
 unfold stepT at h
 rcases hn : nextT bs s.tok.kind s.st s.k with _ | ⟨t, st, k⟩
 ·rw [hn] at h; cases h
 ·rw [hn] at h
  have := next_ok hn hk
  cases h
  exact ⟨rfl, rfl, this.le, this.ge, this.lt, this.kind, this.comma⟩
theorem readF_ok {bs : List UInt8} {s s' : DT} (h : readF bs s = some s') (hk : s.k ≤ bs.length) :
  s'.peeked = false ∧ s'.bad = s.bad ∧ s'.k ≤ bs.length ∧ s.k ≤ s'.k ∧ (s'.tok.kind ≠ 1 → s.k < s'.k) ∧ (1 ≤ s'.tok.kind ∧ s'.tok.kind ≤ 7) := by
 unfold readF at h
 rcases hs : stepT bs s with _ | s1
 ·rw [hs] at h; cases h
 ·rw [hs] at h
  have h1 := step_ok hs hk
  simp only at h
  split at h
  ·rename_i hc
   have h2 := step_ok h h1.2.2.1
   have h3 := h2.2.2.2.2.2.2 hc
   have h4 := h1.2.2.2.2.1 (by omega)
   exact ⟨h2.1, h2.2.1.trans h1.2.1, h2.2.2.1, by omega, fun _ => by omega, by omega⟩
  ·rename_i hc
   cases h
   exact ⟨h1.1, h1.2.1, h1.2.2.1, h1.2.2.2.1, h1.2.2.2.2.1, by omega⟩
theorem readT_plain {bs : List UInt8} {s : DT} (h : s.peeked = false) : readT bs s = readF bs s := by unfold readT; rw [h]; rfl
theorem read_peek {bs : List UInt8} {s : DT} (hp : s.peeked = false) (hb : s.bad = false) (hk : s.k ≤ bs.length) : readT bs (peekT bs s) = readT bs s := by
 rw [readT_plain hp]
 unfold peekT
 rw [hp]
 simp only [Bool.false_eq_true, if_false]
 rcases hf : readF bs s with _ | s'
 ·simp [readT]
 ·have h1 := readF_ok hf hk
  obtain ⟨pk, tok, bad, st, k⟩ := s'
  simp only at h1
  simp [readT, h1.1, h1.2.1, hb]
theorem runT_succ (bs : List UInt8) (ps : List Bool) (f : Nat) (s : DT) (out : List TT) : runT bs ps (f + 1) s out = match readT bs (if ps.getD out.length false then peekT bs s else s) with
  | none => (out, false)
  | some s1 => if s1.tok.kind = 1 then (out, true) else runT bs ps f s1 (out ++ [s1.tok]) := rfl
theorem run_peeks {bs : List UInt8} (ps : List Bool) : ∀ (f : Nat) (s : DT) (out : List TT), s.peeked = false → s.bad = false → s.k ≤ bs.length → runT bs ps f s out = runT bs [] f s out
 | 0, _, _, _, _, _ => rfl
 | f + 1, s, out, hp, hb, hk => by
  have e : readT bs (if ps.getD out.length false then peekT bs s else s) = readT bs s := by
   split
   ·exact read_peek hp hb hk
   ·rfl
  rw [runT_succ, runT_succ, e]
  simp only [List.getD_nil, Bool.false_eq_true, if_false]
  rcases hr : readT bs s with _ | s1
  ·rfl
  ·rw [readT_plain hp] at hr
   have hok := readF_ok hr hk
   simp only
   split
   ·rfl
   ·exact run_peeks ps f s1 _ hok.1 (hok.2.1.trans hb) hok.2.2.1
theorem peeks_nothing (bs : List UInt8) (ps : List Bool) : allT bs ps = allT bs [] := run_peeks ps _ _ _ rfl rfl (Nat.zero_le _)
end Go.Proofs.YtgdnpnipahegaaaGreatDoor
