/-
  What the reference's writer of JSON writes is read by the package's reader as its tokens, each at its place. Plain functions.
-/
import Derived.Test.YtjkmmhnhhiopiaaDoorFLex
import Derived.Test.YtjkmmhnhhiopiaaDoorDRun
namespace Go.Proofs.YtjkmmhnhhiopiaaDoor

/-! ### white space -/
theorem wsN_space (n : Nat) (l : List UInt8) : wsN (spaceT n ++ l) = (spaceT n).length + wsN l := by
  unfold spaceT
  split <;> simp [wsN, wsC] <;> omega
theorem wsN_head {c : UInt8} {l : List UInt8} (h : wsC c = false) : wsN (c :: l) = 0 := by rw [wsN_cons, h]; rfl
theorem wsN_drop : ∀ l : List UInt8, wsN (l.drop (wsN l)) = 0
  | [] => rfl
  | c :: l => by
    cases h : wsC c with
    | false => rw [wsN_head h, List.drop_zero, wsN_head h]
    | true => rw [wsN_cons, h, if_pos rfl, List.drop_succ_cons, wsN_drop l]
theorem goN_zero (bs : List UInt8) (n : Nat) : goN bs n 0 = n + wsN (bs.drop n) := by unfold goN; rw [Nat.add_zero]
theorem goN_addF (bs : List UInt8) (n m : Nat) : goN bs n m = goN bs (n + m) 0 := by unfold goN; rw [Nat.add_zero]
theorem goN_idem (bs : List UInt8) (n : Nat) : goN bs (goN bs n 0) 0 = goN bs n 0 := by
  rw [goN_zero bs (goN bs n 0)]
  rw [goN_zero, ← List.drop_drop, wsN_drop, Nat.add_zero]
/-- behind what was written so far, and a blank: where the next token begins -/
theorem goN_text {pre sp text r bs : List UInt8} {q : Nat} (hb : bs = pre ++ (sp ++ (text ++ r))) (hs : sp = spaceT q) (ht : ∃ c l, text = c :: l ∧ wsC c = false) : goN bs pre.length 0 = pre.length + sp.length ∧ bs.drop (pre.length + sp.length) = text ++ r := by
  obtain ⟨c, l, rfl, hc⟩ := ht
  have hd : bs.drop pre.length = sp ++ ((c :: l) ++ r) := by rw [hb]; exact List.drop_left
  refine ⟨?_, by rw [← List.drop_drop, hd]; exact List.drop_left⟩
  rw [goN_zero, hd, hs, wsN_space, List.cons_append, wsN_head hc]
  rfl

/-! ### Read, step by step -/
/-- Reads, one behind the other: their tokens, but for the commas -/
inductive Chain (bs : List UInt8) : DS → List TK → DS → Prop
  | nil (s : DS) : Chain bs s [] s
  | tok {s s1 t : DS} {l : List TK} : readC bs s = (s1, true) → s1.tok.kind ≠ 1024 → s1.tok.kind ≠ 1 → Chain bs s1 l t → Chain bs s (s1.tok :: l) t
  | comma {s s1 t : DS} {l : List TK} : readC bs s = (s1, true) → s1.tok.kind = 1024 → Chain bs s1 l t → Chain bs s l t
theorem Chain.trans {bs : List UInt8} {s t u : DS} {l m : List TK} (h : Chain bs s l t) (k : Chain bs t m u) : Chain bs s (l ++ m) u := by
  induction h with
  | nil s => exact k
  | tok h1 h2 h3 _ ih => exact .tok h1 h2 h3 (ih k)
  | comma h1 h2 _ ih => exact .comma h1 h2 (ih k)
theorem Chain.facts {bs : List UInt8} {s t : DS} {l : List TK} (h : Chain bs s l t) (hk : s.k ≤ bs.length) : t.bad = s.bad ∧ t.k ≤ bs.length ∧ s.k + l.length ≤ t.k ∧ (s.peeked = false → t.peeked = false) := by
  induction h with
  | nil s => exact ⟨rfl, hk, by simp, fun h => h⟩
  | tok h1 h2 h3 _ ih =>
    have ho := readC_ok h1 hk
    have := ih ho.2.2.1
    refine ⟨this.1.trans ho.2.1, this.2.1, ?_, fun _ => this.2.2.2 ho.1⟩
    have := ho.2.2.2.2.1 h3
    simp only [List.length_cons]; omega
  | comma h1 h2 _ ih =>
    have ho := readC_ok h1 hk
    have := ih ho.2.2.1
    exact ⟨this.1.trans ho.2.1, this.2.1, by omega, fun _ => this.2.2.2 ho.1⟩
theorem runJ_step {bs : List UInt8} {f : Nat} {s : DS} {out : List TK} : runJ bs [] (f + 1) s out = match readJ bs s with
    | (_, false) => (out, false)
    | (s', true) => if s'.tok.kind = 1 then (out, true) else runJ bs [] f s' (out ++ [s'.tok]) := by
  rw [runJ]; simp only [List.getD_nil, Bool.false_eq_true, if_false]; rfl
/-- the reader's run goes over such a chain -/
theorem Chain.run {bs : List UInt8} {s t : DS} {l : List TK} (h : Chain bs s l t) : t.tok.kind ≠ 1024 → s.peeked = false → s.k ≤ bs.length → ∀ (f : Nat) (out : List TK),
    (s.tok.kind ≠ 1024 → runJ bs [] (f + l.length) s out = runJ bs [] f t (out ++ l)) ∧
    (s.tok.kind = 1024 → ∀ s0, s0.peeked = false → readC bs s0 = (s, true) → runJ bs [] (f + l.length) s0 out = runJ bs [] f t (out ++ l)) := by
  induction h with
  | nil s => intro ht _ _ f out; exact ⟨fun _ => by simp, fun h => absurd h ht⟩
  | @tok s s1 t l h1 h2 h3 _ ih =>
    intro ht hp hk f out
    have ho := readC_ok h1 hk
    have ih' := fun out => (ih ht ho.1 ho.2.2.1 f out).1 h2
    have e : f + (s1.tok :: l).length = f + l.length + 1 := by simp only [List.length_cons]; omega
    have e2 : out ++ s1.tok :: l = (out ++ [s1.tok]) ++ l := by simp
    refine ⟨fun _ => ?_, fun hc s0 hp0 h0 => ?_⟩
    · rw [e, runJ_step, readJ_plain hp]
      unfold readF
      rw [h1]
      simp only
      rw [if_neg h2]
      simp only
      rw [if_neg h3, ih', e2]
    · rw [e, runJ_step, readJ_plain hp0]
      unfold readF
      rw [h0]
      simp only
      rw [if_pos hc, h1]
      simp only
      rw [if_neg h3, ih', e2]
  | @comma s s1 t l h1 h2 _ ih =>
    intro ht hp hk f out
    have ho := readC_ok h1 hk
    refine ⟨fun _ => (ih ht ho.1 ho.2.2.1 f out).2 h2 s hp h1, fun hc => ?_⟩
    exact absurd h2 (ho.2.2.2.2.2 hc)

/-! ### the states -/
/-- the reader stands behind n bytes (or behind the white space that follows): so much is open, and this was the last token -/
structure At (bs : List UInt8) (n : Nat) (st : List Nat) (last : Nat) (s : DS) : Prop where
  peeked : s.peeked = false
  bad : s.bad = false
  st : s.st = st
  last : s.tok.kind = last
  le : s.k ≤ bs.length
  pos : goN bs s.k 0 = goN bs n 0
def toTK (t : JT) : TK := ⟨t.kind, t.pos, t.raw, t.tru, t.str⟩
def ValEnd (n : Nat) : Prop := n = 2 ∨ n = 4 ∨ n = 8 ∨ n = 16 ∨ n = 128 ∨ n = 512

section
variable {bs : List UInt8} {ps : List UInt8}
/-- what all kinds of tokens share -/
theorem readC_at {s : DS} {st : List Nat} {last kd q : Nat} {str : List UInt8} {tru : Bool} {pre text r : List UInt8} (h : At bs pre.length st last s) (hx : Lexed kd str tru text) (hr : Ends kd r) (hb : bs = pre ++ (spaceT q ++ (text ++ r))) :
    goN bs s.k 0 = pre.length + (spaceT q).length ∧ nextJ (bs.drop (goN bs s.k 0)) = some (kd, text.length, tru, str) ∧ (bs.drop (goN bs s.k 0)).take text.length = text ∧
      goN bs (goN bs s.k 0) text.length = goN bs (pre ++ spaceT q ++ text).length 0 ∧ goN bs (goN bs s.k 0) text.length ≤ bs.length := by
  obtain ⟨h1, h2⟩ := goN_text hb rfl hx.head
  have h3 := h.pos.trans h1
  rw [h3, h2]
  have hl : pre.length + (spaceT q).length + text.length ≤ bs.length := by rw [hb]; simp only [List.length_append]; omega
  exact ⟨rfl, hx.next r hr, List.take_left, by rw [goN_addF]; simp only [List.length_append], (goN_le hl).2⟩
theorem at_mk {n k : Nat} {st : List Nat} {kd : Nat} {tok : TK} {b : Bool} (hk : k = goN bs n 0) (hl : k ≤ bs.length) (hkd : tok.kind = kd) (hb : b = false) : At bs n st kd ⟨false, tok, b, st, k⟩ :=
  ⟨rfl, hb, rfl, hkd, hl, by show goN bs k 0 = _; rw [hk]; exact goN_idem bs n⟩
/-- a value of one token -/
theorem read_leaf {s : DS} {st : List Nat} {last kd q : Nat} {str : List UInt8} {tru : Bool} {pre text r : List UInt8} (h : At bs pre.length st last s) (hx : Lexed kd str tru text) (hr : Ends kd r) (hb : bs = pre ++ (spaceT q ++ (text ++ r)))
    (hv : valN st last = true) (hk : kd = 2 ∨ kd = 4 ∨ kd = 8 ∨ kd = 16) : ∃ s1, readC bs s = (s1, true) ∧ s1.tok = ⟨kd, pre.length + (spaceT q).length, text, tru, str⟩ ∧ At bs (pre ++ spaceT q ++ text).length st kd s1 := by
  obtain ⟨h1, h2, h3, h4, h5⟩ := readC_at h hx hr hb
  unfold readC
  simp only
  rw [h2]
  simp only
  rw [h.st, h.last, hv, h3, h1] 
  rw [h1] at h4 h5
  by_cases h16 : kd = 16
  · rw [if_neg (by omega), if_neg (by omega), if_pos h16, if_pos rfl]
    exact ⟨_, rfl, rfl, at_mk h4 h5 rfl h.bad⟩
  · rw [if_neg (by omega), if_pos (by omega), if_pos rfl]
    exact ⟨_, rfl, rfl, at_mk h4 h5 rfl h.bad⟩
theorem read_openT {s : DS} {st : List Nat} {last kd q : Nat} {pre text r : List UInt8} (h : At bs pre.length st last s) (hx : Lexed kd [] false text) (hb : bs = pre ++ (spaceT q ++ (text ++ r)))
    (hv : valN st last = true) (hk : kd = 64 ∨ kd = 256) : ∃ s1, readC bs s = (s1, true) ∧ s1.tok = ⟨kd, pre.length + (spaceT q).length, text, false, []⟩ ∧ At bs (pre ++ spaceT q ++ text).length (st ++ [kd]) kd s1 := by
  obtain ⟨h1, h2, h3, h4, h5⟩ := readC_at h hx (.inl (by omega)) hb
  unfold readC
  simp only
  rw [h2]
  simp only
  rw [h.st, h.last, hv, h3, h1]
  rw [h1] at h4 h5
  rw [if_neg (by omega), if_neg (by omega), if_neg (by omega), if_pos hk, if_pos rfl]
  exact ⟨_, rfl, rfl, at_mk h4 h5 rfl h.bad⟩
theorem read_closeO {s : DS} {st : List Nat} {last q : Nat} {pre text r : List UInt8} (h : At bs pre.length (st ++ [64]) last s) (hx : Lexed 128 [] false text) (hb : bs = pre ++ (spaceT q ++ (text ++ r)))
    (hl : last ≠ 32 ∧ last ≠ 1024) : ∃ s1, readC bs s = (s1, true) ∧ s1.tok = ⟨128, pre.length + (spaceT q).length, text, false, []⟩ ∧ At bs (pre ++ spaceT q ++ text).length st 128 s1 := by
  obtain ⟨h1, h2, h3, h4, h5⟩ := readC_at h hx (.inl (by decide)) hb
  unfold readC
  simp only
  rw [h2]
  simp only
  rw [h.st, h.last, h3, h1]
  rw [h1] at h4 h5
  rw [if_neg (by decide), if_neg (by decide), if_neg (by decide), if_neg (by decide), if_pos trivial, if_pos ⟨by simp, hl.1, hl.2⟩]
  simp only [List.dropLast_concat]
  exact ⟨_, rfl, rfl, at_mk h4 h5 rfl h.bad⟩
theorem read_closeL {s : DS} {st : List Nat} {last q : Nat} {pre text r : List UInt8} (h : At bs pre.length (st ++ [256]) last s) (hx : Lexed 512 [] false text) (hb : bs = pre ++ (spaceT q ++ (text ++ r)))
    (hl : last ≠ 1024) : ∃ s1, readC bs s = (s1, true) ∧ s1.tok = ⟨512, pre.length + (spaceT q).length, text, false, []⟩ ∧ At bs (pre ++ spaceT q ++ text).length st 512 s1 := by
  obtain ⟨h1, h2, h3, h4, h5⟩ := readC_at h hx (.inl (by decide)) hb
  unfold readC
  simp only
  rw [h2]
  simp only
  rw [h.st, h.last, h3, h1]
  rw [h1] at h4 h5
  rw [if_neg (by decide), if_neg (by decide), if_neg (by decide), if_neg (by decide), if_neg (by decide), if_pos trivial, if_pos ⟨by simp, hl⟩]
  simp only [List.dropLast_concat]
  exact ⟨_, rfl, rfl, at_mk h4 h5 rfl h.bad⟩
theorem read_commaT {s : DS} {st : List Nat} {last q : Nat} {pre r : List UInt8} (h : At bs pre.length st last s) (hb : bs = pre ++ (spaceT q ++ ([44] ++ r)))
    (hs : st ≠ []) (hl : ValEnd last) : ∃ s1, readC bs s = (s1, true) ∧ s1.tok.kind = 1024 ∧ At bs (pre ++ spaceT q ++ [44]).length st 1024 s1 := by
  obtain ⟨h1, h2, h3, h4, h5⟩ := readC_at h lexed_comma (.inl (by decide)) hb
  unfold readC
  simp only
  rw [h2]
  simp only
  rw [h.st, h.last, h3, h1]
  rw [h1] at h4 h5
  rw [if_neg (by decide), if_neg (by decide), if_neg (by decide), if_neg (by decide), if_neg (by decide), if_neg (by decide), if_pos ⟨hs, hl⟩]
  exact ⟨_, rfl, rfl, at_mk h4 h5 rfl h.bad⟩
/-- a name and its colon -/
theorem read_nameT {s : DS} {st : List Nat} {last q q2 : Nat} {str pre text r : List UInt8} (h : At bs pre.length (st ++ [64]) last s) (hx : Lexed 16 str false text) (hb : bs = pre ++ (spaceT q ++ (text ++ (spaceT q2 ++ ([58] ++ r)))))
    (hl : last = 64 ∨ last = 1024) : ∃ s1, readC bs s = (s1, true) ∧ s1.tok = ⟨32, pre.length + (spaceT q).length, text, false, str⟩ ∧ At bs (pre ++ spaceT q ++ text ++ spaceT q2 ++ [58]).length (st ++ [64]) 32 s1 := by
  obtain ⟨h1, h2, h3, h4, h5⟩ := readC_at h hx (.inr (delim_space (by decide))) hb
  have hb2 : bs = (pre ++ spaceT q ++ text) ++ (spaceT q2 ++ ([58] ++ r)) := by rw [hb]; simp only [List.append_assoc]
  obtain ⟨g1, g2⟩ := goN_text hb2 rfl ⟨58, [], rfl, by decide⟩
  have hv : valN (st ++ [64]) last = false := by unfold valN; simp; omega
  unfold readC
  simp only
  rw [h2]
  simp only
  rw [h.st, h.last, hv, h3, h1]
  rw [h1] at h4 h5
  have hd : bs.drop (goN bs (pre.length + (spaceT q).length) text.length) = 58 :: r := by rw [h4, g1, g2]; rfl
  rw [if_neg (by decide), if_neg (by decide), if_pos trivial, if_neg (by decide), if_pos hl, hd]
  simp only
  rw [if_pos (by decide)]
  have hle : goN bs (pre.length + (spaceT q).length) text.length + 1 ≤ bs.length := by have := congrArg List.length hd; simp only [List.length_drop, List.length_cons] at this; omega
  refine ⟨_, rfl, rfl, ⟨rfl, h.bad, rfl, rfl, (goN_le hle).2, ?_⟩⟩
  show goN bs (goN bs _ 1) 0 = _
  rw [goN_addF bs _ 1, goN_idem, h4, g1]
  congr 1
  simp only [List.length_append, List.length_cons, List.length_nil]
end
end Go.Proofs.YtjkmmhnhhiopiaaDoor
