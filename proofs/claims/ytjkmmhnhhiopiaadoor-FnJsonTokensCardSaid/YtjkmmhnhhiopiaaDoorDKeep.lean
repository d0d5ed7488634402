/-
  What holds of the reader's state and of its tokens behind each Read. Plain.
-/
import Derived.Test.YtjkmmhnhhiopiaaDoorDReadB
import Derived.Test.YtjkmmhnhhiopiaaDoorDRun
namespace Go.Proofs.YtjkmmhnhhiopiaaDoor

/-- what a token of each kind bears -/
def TK.fit (t : TK) : Prop := (t.kind ≠ 4 → t.tru = false) ∧ (t.kind ≠ 16 → t.kind ≠ 32 → t.str = []) ∧ t.kind < 65536 ∧ t.pos < 1000000000
theorem nextJ_fit {l : List UInt8} {kd n : Nat} {b : Bool} {t : List UInt8} (h : nextJ l = some (kd, n, b, t)) : (kd ≠ 4 → b = false) ∧ (kd ≠ 16 → t = []) := by
  cases l with
  | nil => cases h; simp
  | cons c l =>
    rw [nextJ_cons] at h
    repeat' split at h
    all_goals first
      | (cases h; done)
      | (simp only [Option.some.injEq, Prod.mk.injEq] at h; obtain ⟨rfl, rfl, rfl, rfl⟩ := h; simp)
theorem swJ_len {bs : List UInt8} {s : DS} {kd k2 k' : Nat} {st : List Nat} {kd' : Nat} (h : swJ bs s kd k2 = some (st, kd', k')) : (st.length ≤ s.st.length ∨ kd' ≠ 1 ∧ st.length = s.st.length + 1) ∧ (kd' = kd ∨ kd = 16 ∧ kd' = 32) := by
  unfold swJ at h
  repeat' split at h
  all_goals first
    | (cases h; done)
    | (simp only [Option.some.injEq, Prod.mk.injEq] at h; obtain ⟨rfl, rfl, _⟩ := h; refine ⟨?_, ?_⟩ <;> first | omega | (left; simp; done) | (left; simp; omega) | (right; simp; omega))
/-- what holds of the reader's state behind each Read -/
structure DS.good (bs : List UInt8) (s : DS) : Prop where
  ok : s.ok
  st : s.st.length ≤ s.k
  k : s.k ≤ bs.length
  fit : s.tok.fit
theorem DS.good_new (bs : List UInt8) : DS.good bs DS.new := ⟨⟨.inl rfl, fun k hk => by cases hk⟩, Nat.le_refl _, Nat.zero_le _, ⟨fun _ => rfl, fun _ _ => rfl, by decide, by decide⟩⟩
theorem readC_good {bs : List UInt8} {s s' : DS} (h : readC bs s = (s', true)) (hg : s.good bs) (hm : bs.length ≤ 10000000) : s'.good bs := by
  have hok := readC_ok h hg.k
  rcases hn : nextJ (bs.drop (goN bs s.k 0)) with _ | ⟨kd, n, b, t⟩
  · rw [readC_none hn] at h; cases h
  · rw [readC_some hn] at h
    rcases hs : swJ bs s kd (goN bs (goN bs s.k 0) n) with _ | ⟨st, kd', k'⟩
    · rw [hs] at h; cases h
    · rw [hs] at h
      simp only [Prod.mk.injEq, and_true] at h
      have hkd : kindOk kd := by have := (nextJ_ok hn).2; unfold kindOk; omega
      have h1 := swJ_ok hs hg.ok hkd
      have h2 := swJ_len hs
      have h3 := nextJ_fit hn
      have h4 := goN_le (bs := bs) (k := s.k) (n := 0) (by have := hg.k; omega)
      have hst := hg.st
      subst h
      simp only at hok
      refine ⟨h1, ?_, hok.2.2.1, ?_, ?_, ?_, ?_⟩
      · show st.length ≤ k'
        rcases h2.1 with h5 | ⟨h5, h6⟩
        · omega
        · have := hok.2.2.2.2.1 h5; omega
      · intro h5; exact h3.1 (by rcases h2.2 with h6 | h6; rw [← h6]; exact h5; omega)
      · intro h5 h6
        exact h3.2 (by rcases h2.2 with h7 | h7; rw [← h7]; exact h5; exact absurd h7.2 h6)
      · show kd' < 65536
        have := h1.1; unfold kindOk at this; omega
      · show goN bs s.k 0 < 1000000000
        omega
theorem readF_good {bs : List UInt8} {s s' : DS} (h : readF bs s = (s', true)) (hg : s.good bs) (hm : bs.length ≤ 10000000) : s'.good bs := by
  unfold readF at h
  rcases hc : readC bs s with ⟨s1, b1⟩
  rw [hc] at h
  cases b1 with
  | false => cases h
  | true =>
    have h1 := readC_good hc hg hm
    simp only at h
    split at h
    · exact readC_good h h1 hm
    · cases h; exact h1
theorem peek_good {bs : List UInt8} {s s' : DS} (hp : s.peeked = false) (h : readJ bs s = (s', true)) (hg : s.good bs) (hm : bs.length ≤ 10000000) : s'.good bs := by
  rw [readJ_plain hp] at h; exact readF_good h hg hm
theorem runJ_succ (bs : List UInt8) (ps : List Bool) (f : Nat) (s : DS) (l : List TK) : runJ bs ps (f + 1) s l = match readJ bs (if ps.getD l.length false then peekJ bs s else s) with
    | (_, false) => (l, false)
    | (s', true) => if s'.tok.kind = 1 then (l, true) else runJ bs ps f s' (l ++ [s'.tok]) := rfl
/-- one token more -/
theorem run_step {bs : List UInt8} {ps : List Bool} {f : Nat} {s s' : DS} {l : List TK} (hf : bs.length + 1 ≤ f + s.k) (hk : s.k ≤ bs.length) (h : readJ bs (if ps.getD l.length false then peekJ bs s else s) = (s', true)) (h1 : s'.tok.kind ≠ 1) :
    ∃ f', f = f' + 1 ∧ runJ bs ps f s l = runJ bs ps f' s' (l ++ [s'.tok]) := by
  obtain ⟨f', rfl⟩ : ∃ f', f = f' + 1 := ⟨f - 1, by omega⟩
  refine ⟨f', rfl, ?_⟩
  rw [runJ_succ, h]
  simp only
  rw [if_neg h1]
theorem run_end {bs : List UInt8} {ps : List Bool} {f : Nat} {s s' : DS} {l : List TK} (hf : bs.length + 1 ≤ f + s.k) (hk : s.k ≤ bs.length) (h : readJ bs (if ps.getD l.length false then peekJ bs s else s) = (s', true)) (h1 : s'.tok.kind = 1) : runJ bs ps f s l = (l, true) := by
  obtain ⟨f', rfl⟩ : ∃ f', f = f' + 1 := ⟨f - 1, by omega⟩
  rw [runJ_succ, h]
  simp only
  rw [if_pos h1]
theorem run_bad {bs : List UInt8} {ps : List Bool} {f : Nat} {s s' : DS} {l : List TK} (hf : bs.length + 1 ≤ f + s.k) (hk : s.k ≤ bs.length) (h : readJ bs (if ps.getD l.length false then peekJ bs s else s) = (s', false)) : runJ bs ps f s l = (l, false) := by
  obtain ⟨f', rfl⟩ : ∃ f', f = f' + 1 := ⟨f - 1, by omega⟩
  rw [runJ_succ, h]
end Go.Proofs.YtjkmmhnhhiopiaaDoor
