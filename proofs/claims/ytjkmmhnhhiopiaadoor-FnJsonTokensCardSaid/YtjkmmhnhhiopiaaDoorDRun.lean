/-
  The reader of JSON up to its end, with and without looking ahead, and with a copy: as plain functions; looking ahead changes nothing of what is read.
-/
import Derived.Test.YtjkmmhnhhiopiaaDoorDModel
namespace Go.Proofs.YtjkmmhnhhiopiaaDoor

def TK.zero : TK := ⟨0, 0, [], false, []⟩
/-- Peek -/
def peekJ (bs : List UInt8) (s : DS) : DS :=
  if s.peeked then s
  else match readJ bs s with
  | (s', true) => { s' with peeked := true, bad := false }
  | (s', false) => { s' with peeked := true, bad := true, tok := TK.zero }
/-- all tokens up to the end (true), or to an error (false); so many reads at most; 'ps': where to look ahead -/
def runJ (bs : List UInt8) (ps : List Bool) : Nat → DS → List TK → List TK × Bool
  | 0, _, out => (out, false)
  | f + 1, s, out =>
    match readJ bs (if ps.getD out.length false then peekJ bs s else s) with
    | (_, false) => (out, false)
    | (s', true) => if s'.tok.kind = 1 then (out, true) else runJ bs ps f s' (out ++ [s'.tok])
/-- the reader at the beginning -/
def DS.new : DS := ⟨false, TK.zero, false, [], 0⟩
def allJ (bs : List UInt8) (ps : List Bool) : List TK × Bool := runJ bs ps (bs.length + 1) DS.new []
/-- so many tokens, then the rest by the copied reader's original -/
def cloneJ (bs : List UInt8) (at_ : Nat) : Nat → DS → List TK → List TK × Bool
  | 0, _, out => (out, false)
  | f + 1, s, out =>
    if out.length < at_ then (match readJ bs s with
      | (_, false) => (out, false)
      | (s', true) => if s'.tok.kind = 1 then (out, true) else cloneJ bs at_ f s' (out ++ [s'.tok]))
    else runJ bs [] (f + 1) s out

theorem goN_le {bs : List UInt8} {k n : Nat} (h : k + n ≤ bs.length) : k + n ≤ goN bs k n ∧ goN bs k n ≤ bs.length := by
  have := wsN_le (bs.drop (k + n))
  simp only [List.length_drop] at this
  unfold goN
  omega
/-- what Read leaves where there is no error -/
theorem readC_ok {bs : List UInt8} {s s' : DS} (h : readC bs s = (s', true)) (hk : s.k ≤ bs.length) :
    s'.peeked = false ∧ s'.bad = s.bad ∧ s'.k ≤ bs.length ∧ s.k ≤ s'.k ∧ (s'.tok.kind ≠ 1 → s.k < s'.k) ∧ (s.tok.kind = 1024 → s'.tok.kind ≠ 1024) := by
  have hg := goN_le (bs := bs) (k := s.k) (n := 0) (by omega)
  unfold readC at h
  simp only at h
  rcases hn : nextJ (bs.drop (goN bs s.k 0)) with _ | ⟨kd, n, b, t⟩
  · rw [hn] at h; cases h
  · rw [hn] at h
    simp only at h
    obtain ⟨hle, hcs⟩ := nextJ_ok hn
    simp only [List.length_drop] at hle
    have hg2 := goN_le (bs := bs) (k := goN bs s.k 0) (n := n) (by omega)
    have key : ∀ {st : List Nat} {kd' k' : Nat} {s' : DS} {r : List UInt8}, (⟨false, ⟨kd', goN bs s.k 0, r, b, t⟩, s.bad, st, k'⟩, true) = (s', true) → goN bs (goN bs s.k 0) n ≤ k' → k' ≤ bs.length → (kd' ≠ 1 → kd ≠ 1) → (s.tok.kind = 1024 → kd' ≠ 1024) →
        s'.peeked = false ∧ s'.bad = s.bad ∧ s'.k ≤ bs.length ∧ s.k ≤ s'.k ∧ (s'.tok.kind ≠ 1 → s.k < s'.k) ∧ (s.tok.kind = 1024 → s'.tok.kind ≠ 1024) := by
      intro st kd' k' s' r he h1 h2 h3 h4
      injection he with he _
      subst he
      exact ⟨rfl, rfl, h2, by simp only; omega, fun h5 => by simp only; have := h3 h5; omega, h4⟩
    split at h
    · split at h
      · exact key h (Nat.le_refl _) hg2.2 (fun h => by omega) (fun _ => by omega)
      · cases h
    · split at h
      · split at h
        · exact key h (Nat.le_refl _) hg2.2 (fun _ => by omega) (fun _ => by omega)
        · cases h
      · split at h
        · split at h
          · exact key h (Nat.le_refl _) hg2.2 (fun _ => by omega) (fun _ => by omega)
          · split at h
            · rcases hd : bs.drop (goN bs (goN bs s.k 0) n) with _ | ⟨c, l⟩
              · rw [hd] at h; cases h
              · rw [hd] at h
                have hlt : goN bs (goN bs s.k 0) n + 1 ≤ bs.length := by have := congrArg List.length hd; simp at this; omega
                have hg3 := goN_le (bs := bs) (k := goN bs (goN bs s.k 0) n) (n := 1) hlt
                simp only at h
                split at h
                · exact key (kd' := 32) h (by omega) hg3.2 (fun _ => by omega) (fun _ => by omega)
                · cases h
            · cases h
        · split at h
          · split at h
            · exact key h (Nat.le_refl _) hg2.2 (fun _ => by omega) (fun _ => by omega)
            · cases h
          · split at h
            · split at h
              · exact key h (Nat.le_refl _) hg2.2 (fun _ => by omega) (fun _ => by omega)
              · cases h
            · split at h
              · split at h
                · exact key h (Nat.le_refl _) hg2.2 (fun _ => by omega) (fun _ => by omega)
                · cases h
              · split at h
                · rename_i hcm
                  exact key h (Nat.le_refl _) hg2.2 (fun _ => by omega) (fun h1 => by omega)
                · cases h
/-- Read where nothing was looked at ahead -/
def readF (bs : List UInt8) (s : DS) : DS × Bool :=
  match readC bs s with
  | (s', false) => (s', false)
  | (s', true) => if s'.tok.kind = 1024 then readC bs s' else (s', true)
theorem readJ_plain {bs : List UInt8} {s : DS} (h : s.peeked = false) : readJ bs s = readF bs s := by
  unfold readJ readF
  rw [h]; rfl
theorem readF_ok {bs : List UInt8} {s s' : DS} (h : readF bs s = (s', true)) (hk : s.k ≤ bs.length) :
    s'.peeked = false ∧ s'.bad = s.bad ∧ s'.k ≤ bs.length ∧ (s'.tok.kind ≠ 1 → s.k < s'.k) ∧ s'.tok.kind ≠ 1024 := by
  unfold readF at h
  rcases hc : readC bs s with ⟨s1, b1⟩
  rw [hc] at h
  cases b1 with
  | false => cases h
  | true =>
    have h1 := readC_ok hc hk
    simp only at h
    split at h
    · rename_i hk1
      have h2 := readC_ok h h1.2.2.1
      exact ⟨h2.1, h2.2.1.trans h1.2.1, h2.2.2.1, fun _ => by have := h1.2.2.2.2.1 (by omega); omega, h2.2.2.2.2.2 hk1⟩
    · rename_i hk1
      cases h
      exact ⟨h1.1, h1.2.1, h1.2.2.1, h1.2.2.2.2.1, hk1⟩
/-- a look ahead, and then a Read: it is the Read -/
theorem read_peek {bs : List UInt8} {s : DS} (hp : s.peeked = false) (hb : s.bad = false) (hk : s.k ≤ bs.length) :
    (readJ bs (peekJ bs s)).2 = (readJ bs s).2 ∧ ((readJ bs s).2 = true → readJ bs (peekJ bs s) = readJ bs s) := by
  rw [readJ_plain hp]
  unfold peekJ
  rw [hp, readJ_plain hp]
  simp only [Bool.false_eq_true, if_false]
  rcases hf : readF bs s with ⟨s', b⟩
  cases b with
  | false => simp [readJ]
  | true =>
    have h1 := readF_ok hf hk
    obtain ⟨pk, tok, bad, st, k⟩ := s'
    simp only at h1
    simp [readJ, h1.1, h1.2.1, hb]
theorem run_peeks {bs : List UInt8} (ps : List Bool) : ∀ (f : Nat) (s : DS) (out : List TK), s.peeked = false → s.bad = false → s.k ≤ bs.length → runJ bs ps f s out = runJ bs [] f s out
  | 0, _, _, _, _, _ => rfl
  | f + 1, s, out, hp, hb, hk => by
    have hcase : (∃ s', readJ bs s = (s', true) ∧ readJ bs (if ps.getD out.length false then peekJ bs s else s) = (s', true)) ∨ (∃ s1 s2, readJ bs s = (s1, false) ∧ readJ bs (if ps.getD out.length false then peekJ bs s else s) = (s2, false)) := by
      have hrp := read_peek hp hb hk
      rcases hr : readJ bs s with ⟨s', b⟩
      rw [hr] at hrp
      split
      · cases b with
        | false =>
          rcases hr2 : readJ bs (peekJ bs s) with ⟨s2, b2⟩
          rw [hr2] at hrp
          have : b2 = false := hrp.1
          subst this
          exact .inr ⟨_, _, rfl, rfl⟩
        | true => exact .inl ⟨s', rfl, hrp.2 rfl⟩
      · cases b with
        | false => exact .inr ⟨_, _, rfl, hr⟩
        | true => exact .inl ⟨s', rfl, hr⟩
    rcases hcase with ⟨s', h1, h2⟩ | ⟨s1, s2, h1, h2⟩
    · have hok := readF_ok (by rw [← readJ_plain hp]; exact h1) hk
      unfold runJ
      rw [h2]
      simp only [List.getD_nil, Bool.false_eq_true, if_false, h1]
      split
      · rfl
      · exact run_peeks ps f s' _ hok.1 (hok.2.1.trans hb) hok.2.2.1
    · unfold runJ
      rw [h2]
      simp only [List.getD_nil, Bool.false_eq_true, if_false, h1]
theorem peeks_nothing (bs : List UInt8) (ps : List Bool) : allJ bs ps = allJ bs [] := run_peeks ps _ _ _ rfl rfl (Nat.zero_le _)
/-- a copy changes nothing -/
theorem clone_nothing (bs : List UInt8) (n : Nat) : ∀ (f : Nat) (s : DS) (out : List TK), cloneJ bs n f s out = runJ bs [] f s out
  | 0, _, _ => rfl
  | f + 1, s, out => by
    unfold cloneJ
    split
    · unfold runJ
      simp only [List.getD_nil, Bool.false_eq_true, if_false]
      split
      · rfl
      · split
        · rfl
        · exact clone_nothing bs n f _ _
    · rfl
end Go.Proofs.YtjkmmhnhhiopiaaDoor
