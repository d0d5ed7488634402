/-
  Lines and columns: the plain law, and what the loops over bytes give.
-/
import Derived.Test.YtjkmmhnhhiopiaaViews
namespace Go.Proofs.Ytjkmmhnhhiopiaa
open Go.ChangeShapes Go.WideShapes Go.ChangeAt Go.RowKit

theorem Try.info5 : (Try.prog.info? 5).map (fun i => (i.zero, i.size, i.bytes)) = some (some (.int .u8 0), 1, 1) := by kernel_rfl

/-- line feeds so far, the bytes behind the last one, and whether these are ASCII -/
def pstep (st : Nat × List UInt8 × Bool) (c : UInt8) : Nat × List UInt8 × Bool :=
  if (c.toNat : Int) == 10 then (st.1 + 1, [], true) else (st.1, st.2.1 ++ [c], st.2.2 && !decide ((128 : Int) ≤ c.toNat))
def place (l : List UInt8) : Nat × List UInt8 × Bool := l.foldl pstep (0, [], true)
theorem place_snoc (l : List UInt8) (c : UInt8) : place (l ++ [c]) = pstep (place l) c := by simp [place]
theorem ltake_snoc (l : List UInt8) (k : Nat) (h : k < l.length) : l.take (k + 1) = l.take k ++ [l[k]] := by rw [List.take_succ_eq_append_getElem h]
theorem place_len (l : List UInt8) : (place l).1 ≤ l.length ∧ (place l).2.1.length ≤ l.length := by
  have key : ∀ (l : List UInt8) (st : Nat × List UInt8 × Bool), (l.foldl pstep st).1 ≤ st.1 + l.length ∧ (l.foldl pstep st).2.1.length ≤ st.2.1.length + l.length := by
    intro l
    induction l with
    | nil => intro st; simp
    | cons c l ih =>
      intro st
      have h := ih (pstep st c)
      have h1 : (pstep st c).1 ≤ st.1 + 1 ∧ (pstep st c).2.1.length ≤ st.2.1.length + 1 := by unfold pstep; split <;> simp
      simp only [List.foldl_cons, List.length_cons]
      omega
  have := key l (0, [], true)
  simpa [place] using this
def NoNL (l : List UInt8) : Prop := ∀ c ∈ l, (c.toNat : Int) ≠ 10
/-- r: where the last line feed stands, or -1 -/
def LastNL (l : List UInt8) (r : Int) : Prop := (r = -1 ∧ NoNL l) ∨ ∃ k : Nat, r = k ∧ ∃ h : k < l.length, (l[k].toNat : Int) = 10 ∧ NoNL (l.drop (k + 1))
theorem place_from (b : List UInt8) (h : NoNL b) : ∀ st : Nat × List UInt8 × Bool, (b.foldl pstep st).2.1 = st.2.1 ++ b := by
  induction b with
  | nil => intro st; simp
  | cons c b ih =>
    intro st
    have hc : ((c.toNat : Int) == 10) = false := by rw [beq_eq_false_iff_ne]; exact h c (by simp)
    rw [List.foldl_cons, ih (fun x hx => h x (by simp [hx]))]
    unfold pstep
    rw [hc]
    simp
theorem place_last {l : List UInt8} {r : Int} (h : LastNL l r) : (r = -1 → (place l).2.1 = l) ∧ ∀ k : Nat, r = k → (place l).2.1 = l.drop (k + 1) ∧ k < l.length := by
  rcases h with ⟨rfl, h⟩ | ⟨k, rfl, hk, h1, h2⟩
  · refine ⟨fun _ => by have := place_from l h (0, [], true); simpa [place] using this, fun k hk => by omega⟩
  · refine ⟨fun h => by omega, fun j hj => ?_⟩
    have : j = k := by omega
    subst this
    refine ⟨?_, hk⟩
    have hs : l = l.take j ++ l[j] :: l.drop (j + 1) := by rw [← List.drop_eq_getElem_cons hk, List.take_append_drop]
    have hc : ((l[j].toNat : Int) == 10) = true := by rw [beq_iff_eq]; exact h1
    have h3 : (place l).2.1 = (List.foldl pstep (pstep (place (l.take j)) l[j]) (l.drop (j + 1))).2.1 := by
      conv => lhs; rw [hs]
      unfold place
      rw [List.foldl_append, List.foldl_cons]
    rw [h3, place_from _ h2]
    unfold pstep
    rw [hc]
    simp
theorem last_exists (l : List UInt8) : ∃ r, LastNL l r := by
  by_cases h : NoNL l
  · exact ⟨-1, .inl ⟨rfl, h⟩⟩
  · have key : ∀ n, (∃ k, ∃ h : k < l.length, (l[k].toNat : Int) = 10 ∧ l.length ≤ k + n) → ∃ r, LastNL l r := by
      intro n
      induction n with
      | zero => rintro ⟨k, hk, _, h2⟩; omega
      | succ n ih =>
        rintro ⟨k, hk, h1, h2⟩
        by_cases h3 : ∃ j, ∃ hj : j < l.length, k < j ∧ (l[j].toNat : Int) = 10
        · obtain ⟨j, hj, h4, h5⟩ := h3
          exact ih ⟨j, hj, h5, by omega⟩
        · refine ⟨k, .inr ⟨k, rfl, hk, h1, fun c hc he => h3 ?_⟩⟩
          obtain ⟨i, hi, rfl⟩ := List.mem_iff_getElem.1 hc
          rw [List.getElem_drop] at he
          exact ⟨k + 1 + i, by simp at hi; omega, by omega, he⟩
    unfold NoNL at h
    simp only [ne_eq, Classical.not_forall, Classical.not_not] at h
    obtain ⟨c, hc, he⟩ := h
    obtain ⟨i, hi, rfl⟩ := List.mem_iff_getElem.1 hc
    exact key l.length ⟨i, hi, he, by omega⟩
theorem last_is {l : List UInt8} {r : Int} (hr : LastNL l r) {k : Nat} (hk : k < l.length) (h : (l[k].toNat : Int) = 10) (h2 : ∀ j (h : j < l.length), k < j → (l[j].toNat : Int) ≠ 10) : r = k := by
  rcases hr with ⟨_, h3⟩ | ⟨k', rfl, h3, h4, h5⟩
  · exact absurd h (h3 _ (List.getElem_mem hk))
  · by_cases e : k = k'
    · rw [e]
    · by_cases e2 : k < k'
      · exact absurd h4 (h2 k' h3 e2)
      · refine absurd h (h5 _ ?_)
        refine List.mem_iff_getElem.2 ⟨k - (k' + 1), by simp; omega, ?_⟩
        rw [List.getElem_drop]
        exact getElem_congr_idx (by omega)
theorem last_no {l : List UInt8} {r : Int} (hr : LastNL l r) (h : ∀ j (h : j < l.length), (l[j].toNat : Int) ≠ 10) : r = -1 := by
  rcases hr with ⟨h3, _⟩ | ⟨k', rfl, h3, h4, h5⟩
  · exact h3
  · exact absurd h4 (h k' h3)
theorem place_ascii : ∀ (l : List UInt8), (place l).2.2 = true → ∀ c ∈ (place l).2.1, ¬ (128 : Int) ≤ c.toNat := by
  have key : ∀ (l : List UInt8) (st : Nat × List UInt8 × Bool), (st.2.2 = true → ∀ c ∈ st.2.1, ¬ (128 : Int) ≤ c.toNat) → (l.foldl pstep st).2.2 = true → ∀ c ∈ (l.foldl pstep st).2.1, ¬ (128 : Int) ≤ c.toNat := by
    intro l
    induction l with
    | nil => intro st h; exact h
    | cons c l ih =>
      intro st h
      rw [List.foldl_cons]
      refine ih _ ?_
      unfold pstep
      split
      · simp
      · intro hok x hx
        simp only [Bool.and_eq_true, Bool.not_eq_true', decide_eq_false_iff_not] at hok
        rcases List.mem_append.1 hx with hx | hx
        · exact h hok.1 x hx
        · simp only [List.mem_singleton] at hx
          subst hx
          exact hok.2
  intro l
  exact key l (0, [], true) (by simp)

/-- what the reference gives -/
def placeVal (l : List UInt8) : Value := .tuple #[.int .i64 (1 + ((place l).1 : Int)), .int .i64 (1 + ((place l).2.1.length : Int)), .int .i64 (if (place l).2.2 then 1 else 2)]

set_option maxRecDepth 100000 in
set_option maxHeartbeats 1000000 in
theorem jsonPlace_any (v : Value) (bs : List UInt8) (g : Nat) (w : World) (hv : View w g v bs) (n : Nat) (hn : n ≤ bs.length) (hm : bs.length ≤ 1000000) :
    Calls Try.prog 7 #[v, .int .i64 n] w fun e w' => e = .returned (placeVal (bs.take n)) ∧ w = w' := by
  go_enter Try.func7, Try.ntmps7
  go_wp2
  go_loop [4, 5, 6, 7] (fun ln cl ok i => ∃ k : Nat, k ≤ n ∧ i = .int .i64 k ∧ ln = .int .i64 (1 + ((place (bs.take k)).1 : Int)) ∧ cl = .int .i64 (1 + ((place (bs.take k)).2.1.length : Int)) ∧ ok = .int .i64 (if (place (bs.take k)).2.2 then 1 else 2)) (fun _ _ _ i => n - (intOf i).toNat)
  case atStart => exact ⟨0, by omega, rfl, rfl, rfl, rfl⟩
  case round =>
    obtain ⟨k, hk, rfl, rfl, rfl, rfl⟩ := hrel
    have hl := place_len (bs.take k)
    have hl2 : (bs.take k).length ≤ k := List.length_take_le _ _
    by_cases hlt : k < n
    · have hkl : k < bs.length := by omega
      have HE : Hid (place (bs.take (k + 1)) = pstep (place (bs.take k)) bs[k]) := by rw [ltake_snoc bs k hkl]; exact place_snoc _ _
      generalize place (bs.take k) = st at *
      obtain ⟨ln, tl, ok⟩ := st
      simp only at hl HE
      rcases hc : ((bs[k].toNat : Int) == 10) with _ | _ <;> rcases ok with _ | _
      all_goals
        have HC := hid hc
        go_wp2_with (first | (refine wpList_len_view _ rfl _ 25 5 rfl Try.underlying25 _ _ _ rfl (by assumption) ?_) | (refine wpList_index_view _ rfl _ _ 25 5 rfl Try.underlying25 Try.info5 _ _ _ rfl (by assumption) _ _ rfl (by omega) (by omega) ?_; intro ad1 hc1))
        all_goals
          go_round
          case rel => exact ⟨k + 1, by omega, by go_num, by rw [HE.out]; simp [pstep, HC.out] <;> omega, by rw [HE.out]; simp [pstep, HC.out] <;> omega, by rw [HE.out]; simp [pstep, HC.out] <;> omega⟩
          case measure => simp [intOf]; omega
    · have : k = n := by omega
      subst this
      rcases ho : (place (bs.take k)).2.2 with _ | _
      all_goals
        go_wp2
        go_ret3
        exact ⟨by unfold placeVal; rw [ho]; rfl, rfl⟩
end Go.Proofs.Ytjkmmhnhhiopiaa
