/-
  The reference's reader of a quoted string of the text form and the package's tell the same, where the reference leaves nothing open. Plain functions.
-/
import Derived.Test.YtgdnpnipahegaaaDoorTStr
import Derived.Test.YtgdnpnipahegaaaDoorTChar
namespace Go.Proofs.YtgdnpnipahegaaaDoor

def pointR (d : Nat) (l : List UInt8) : Option (List UInt8 × Nat × Nat) := if l.length < d then none else match hexN 0 (l.take d) with
  | none => none
  | some v => if 1114111 < v ∨ (55296 ≤ v ∧ v < 57344) then some ([], 1 + d, 2) else some (encU v, 1 + d, 1)
def octR (l : List UInt8) : List UInt8 × Nat × Nat := if 255 < octV 0 (l.take (min 3 (runN isOct l))) then ([], min 3 (runN isOct l), 2) else ([UInt8.ofNat (octV 0 (l.take (min 3 (runN isOct l))))], min 3 (runN isOct l), 1)
def hexR2 (l : List UInt8) : List UInt8 × Nat × Nat := if runN isHex l = 0 then ([], 1, 2) else ([UInt8.ofNat ((hexN 0 (l.take (min 2 (runN isHex l)))).getD 0)], 1 + min 2 (runN isHex l), 1)
/-- what stands behind a backslash: the bytes, how many it has, 1: so it is, 2: left open -/
def escRT : List UInt8 → Option (List UInt8 × Nat × Nat)
  | [] => none
  | c :: l => if escT1 c.toNat ≠ 0 then some ([UInt8.ofNat (escT1 c.toNat)], 1, 1) else if isOct c then some (octR (c :: l)) else if c.toNat = 120 then some (hexR2 l)
    else if c.toNat = 117 then pointR 4 l else if c.toNat = 85 then pointR 8 l else if c.toNat = 88 ∨ c.toNat = 10 then some ([], 1, 2) else none
theorem escRT_cons (c : UInt8) (l : List UInt8) : escRT (c :: l) = if escT1 c.toNat ≠ 0 then some ([UInt8.ofNat (escT1 c.toNat)], 1, 1) else if isOct c then some (octR (c :: l)) else if c.toNat = 120 then some (hexR2 l)
    else if c.toNat = 117 then pointR 4 l else if c.toNat = 85 then pointR 8 l else if c.toNat = 88 ∨ c.toNat = 10 then some ([], 1, 2) else none := rfl
def ctlC (c : UInt8) : Bool := decide (c.toNat < 32) && c.toNat != 9 || c.toNat == 127
/-- a string behind its first quotation mark: what it stands for, 0: it is none, 1: so it is, 2: left open; and how many bytes are left behind it -/
def refF (q : Nat) (whole : List UInt8) : Nat → List UInt8 → List UInt8 → Nat → List UInt8 × Nat × Nat
  | 0, _, _, _ => ([], 0, 0)
  | _ + 1, [], _, _ => ([], 0, 0)
  | f + 1, c :: l, out, told => if c.toNat = q then (out, (if utf8V (whole.take (whole.length - l.length)) then told else 2), l.length) else if c.toNat = 10 then ([], 0, 0)
    else if c.toNat = 92 then (match escRT l with
      | none => ([], 0, 0)
      | some (x, n, ok) => refF q whole f (l.drop n) (out ++ x) (max told ok))
    else refF q whole f l (out ++ [c]) (if ctlC c then 2 else told)
def refUC (c : UInt8) (r : List UInt8) : List UInt8 × Nat := if c.toNat ≠ 34 ∧ c.toNat ≠ 39 then ([], 2) else if (refF c.toNat (c :: r) r.length r [] 1).2.1 ≠ 1 then ([], (refF c.toNat (c :: r) r.length r [] 1).2.1)
    else if (refF c.toNat (c :: r) r.length r [] 1).2.2 ≠ 0 then ([], 2) else ((refF c.toNat (c :: r) r.length r [] 1).1, 1)
def refU : List UInt8 → List UInt8 × Nat
  | [] => ([], 0)
  | c :: r => refUC c r
/-- the package's -/
def unqT : List UInt8 → Option (List UInt8)
  | [] => none
  | c :: r => match strT c.toNat r [] with
    | none => none
    | some (s, _) => some s

theorem escRT_size {l x : List UInt8} {n ok : Nat} (h : escRT l = some (x, n, ok)) : n ≤ l.length ∧ 1 ≤ n ∧ (ok = 1 ∨ ok = 2) := by
  cases l with
  | nil => cases h
  | cons c l =>
    have ho := runN_le isOct (c :: l)
    have hx := runN_le isHex l
    have hp : ∀ d, pointR d l = some (x, n, ok) → n ≤ (c :: l).length ∧ 1 ≤ n ∧ (ok = 1 ∨ ok = 2) := by
      intro d h
      unfold pointR at h
      split at h
      · cases h
      · split at h
        · cases h
        · split at h
          · cases h; simp; omega
          · cases h; simp; omega
    rw [escRT_cons] at h
    split at h
    · cases h; simp
    · split at h
      · rename_i hc
        have h1 : 1 ≤ runN isOct (c :: l) := by rw [runN_cons, if_pos hc]; omega
        unfold octR at h
        split at h
        · cases h; omega
        · cases h; omega
      · split at h
        · unfold hexR2 at h
          split at h
          · cases h; simp
          · cases h; simp; omega
        · split at h
          · exact hp 4 h
          · split at h
            · exact hp 8 h
            · split at h
              · cases h; simp
              · cases h
theorem refF_fuel (q : Nat) (whole : List UInt8) : ∀ (f g : Nat) (l out : List UInt8) (told : Nat), l.length ≤ f → l.length ≤ g → refF q whole f l out told = refF q whole g l out told
  | 0, 0, _, _, _, _, _ => rfl
  | 0, g + 1, l, out, told, h, _ => by
    have : l = [] := List.eq_nil_of_length_eq_zero (by omega)
    subst this; rfl
  | f + 1, 0, l, out, told, _, h => by
    have : l = [] := List.eq_nil_of_length_eq_zero (by omega)
    subst this; rfl
  | f + 1, g + 1, [], out, told, _, _ => rfl
  | f + 1, g + 1, c :: l, out, told, hf, hg => by
    simp only [List.length_cons] at hf hg
    unfold refF
    split
    · rfl
    · split
      · rfl
      · split
        · rcases he : escRT l with _ | ⟨x, n, ok⟩
          · rfl
          · exact refF_fuel q whole f g _ _ _ (by simp; omega) (by simp; omega)
        · exact refF_fuel q whole f g _ _ _ (by omega) (by omega)
def refT (q : Nat) (whole l out : List UInt8) (told : Nat) : List UInt8 × Nat × Nat := refF q whole l.length l out told
theorem refT_cons {q : Nat} {whole : List UInt8} (c : UInt8) (l out : List UInt8) (told : Nat) : refT q whole (c :: l) out told = if c.toNat = q then (out, (if utf8V (whole.take (whole.length - l.length)) then told else 2), l.length) else if c.toNat = 10 then ([], 0, 0)
    else if c.toNat = 92 then (match escRT l with
      | none => ([], 0, 0)
      | some (x, n, ok) => refT q whole (l.drop n) (out ++ x) (max told ok))
    else refT q whole l (out ++ [c]) (if ctlC c then 2 else told) := by
  unfold refT
  rw [List.length_cons, refF]
  split
  · rfl
  · split
    · rfl
    · split
      · rcases he : escRT l with _ | ⟨x, n, ok⟩
        · rfl
        · exact refF_fuel q whole _ _ _ _ _ (by simp) (Nat.le_refl _)
      · rfl
/-- bytes that may stand ahead: whether the rest is UTF-8 does not change -/
def Neutral (pre : List UInt8) : Prop := ∀ x, utf8V (pre ++ x) = utf8V x
theorem neutral_char {pre l : List UInt8} {c n : Nat} (h : Neutral pre) (hu : u8char l = some (c, n)) : Neutral (pre ++ l.take n) := by
  intro x
  have hs := u8char_size hu
  rw [List.append_assoc, h, utf8V_some (u8char_take hu (r := x)), List.drop_left' (by rw [List.length_take]; omega)]
theorem neutral_ascii {pre : List UInt8} (h : Neutral pre) : ∀ (l : List UInt8), (∀ c ∈ l, c.toNat < 128) → Neutral (pre ++ l)
  | [], _ => by rw [List.append_nil]; exact h
  | c :: l, hl => by
    have h1 : Neutral (pre ++ [c]) := fun x => by
      rw [List.append_assoc, h, List.singleton_append, utf8V_some (v := c.toNat) (n := 1) (by rw [u8char_cons, if_pos (hl c (by simp))])]
      rfl
    have := neutral_ascii h1 l (fun d hd => hl d (by simp [hd]))
    rwa [List.append_assoc, List.singleton_append] at this
theorem hexV_ascii {c : UInt8} (h : hexV c.toNat < 16) : c.toNat < 128 := by
  have hc := c.toNat_lt
  have hl : lowN c.toNat = c.toNat ∨ lowN c.toNat = c.toNat + 32 := by unfold lowN; split <;> simp
  unfold hexV at h
  split at h
  · omega
  · split at h
    · have h2 : lowN c.toNat < 103 := by omega
      omega
    · omega
theorem hexN_ascii : ∀ (l : List UInt8) (acc v : Nat), hexN acc l = some v → ∀ c ∈ l, c.toNat < 128
  | [], _, _, _, c, hc => by simp at hc
  | d :: l, acc, v, h, c, hc => by
    unfold hexN at h
    split at h
    · rename_i hd
      rcases List.mem_cons.1 hc with rfl | hc
      · exact hexV_ascii hd
      · exact hexN_ascii l _ _ h c hc
    · cases h
theorem escRT_ascii {l x : List UInt8} {n ok : Nat} (h : escRT l = some (x, n, ok)) : ∀ c ∈ l.take n, c.toNat < 128 := by
  cases l with
  | nil => simp
  | cons c l =>
    have one : c.toNat < 128 → ∀ d ∈ (c :: l).take 1, d.toNat < 128 := by
      intro h d hd
      simp at hd; subst hd; exact h
    have point : ∀ k, c.toNat < 128 → pointR k l = some (x, n, ok) → ∀ d ∈ (c :: l).take n, d.toNat < 128 := by
      intro k hc h d hd
      unfold pointR at h
      split at h
      · cases h
      · rcases hx : hexN 0 (l.take k) with _ | v
        · rw [hx] at h; cases h
        · rw [hx] at h
          have hn : n = 1 + k := by
            simp only at h
            split at h <;> cases h <;> rfl
          subst hn
          rw [Nat.add_comm, List.take_succ_cons, List.mem_cons] at hd
          rcases hd with rfl | hd
          · exact hc
          · exact hexN_ascii _ _ _ hx d hd
    rw [escRT_cons] at h
    split at h
    · rename_i hc
      cases h
      refine one ?_
      unfold escT1 at hc
      repeat' split at hc
      all_goals omega
    · split at h
      · rename_i hc
        have hn : n = min 3 (runN isOct (c :: l)) := by unfold octR at h; split at h <;> cases h <;> rfl
        subst hn
        intro d hd
        have := runN_all isOct (c :: l) d (List.take_subset_take_left _ (Nat.min_le_right _ _) hd)
        unfold isOct at this
        simp at this
        omega
      · split at h
        · rename_i hc
          unfold hexR2 at h
          split at h
          · cases h; exact one (by omega)
          · cases h
            intro d hd
            rw [Nat.add_comm, List.take_succ_cons, List.mem_cons] at hd
            rcases hd with rfl | hd
            · omega
            · have := runN_all isHex l d (List.take_subset_take_left _ (Nat.min_le_right _ _) hd)
              unfold isHex at this
              simp at this
              omega
        · split at h
          · exact point 4 (by omega) h
          · split at h
            · exact point 8 (by omega) h
            · split at h
              · cases h; exact one (by omega)
              · cases h
theorem isHex_v {c : UInt8} (h : isHex c = true) : hexV c.toNat < 16 := by
  unfold isHex at h
  simp at h
  have hl : (48 ≤ c.toNat ∧ c.toNat ≤ 57) ∨ 97 ≤ lowN c.toNat ∧ lowN c.toNat ≤ 102 := by
    unfold lowN
    rcases h with h | h | h
    · exact .inl h
    · rw [if_pos (by omega)]; exact .inr h
    · rw [if_neg (by omega)]; exact .inr (by omega)
  unfold hexV
  split
  · omega
  · rw [if_pos (by omega)]; omega
theorem hexN_all : ∀ (l : List UInt8) (acc : Nat), (∀ c ∈ l, isHex c = true) → ∃ v, hexN acc l = some v
  | [], acc, _ => ⟨acc, rfl⟩
  | c :: l, acc, h => by
    unfold hexN
    rw [if_pos (isHex_v (h c (by simp)))]
    exact hexN_all l _ (fun d hd => h d (by simp [hd]))
theorem hexT2_R (l : List UInt8) : ∃ v, hexN 0 (l.take (min 2 (runN isHex l))) = some v :=
  hexN_all _ 0 (fun c hc => runN_all isHex l c (List.take_subset_take_left _ (Nat.min_le_right _ _) hc))
theorem surrT_iff (v : Nat) : surrT v = false ↔ ¬ (55296 ≤ v ∧ v < 57344) := by unfold surrT; simp
/-- the reference's escape and the package's -/
def EscRel (a : UInt8) (l : List UInt8) : Prop :=
  (escRT l = none ∧ escT (a :: l) = none) ∨ (∃ x n, escRT l = some (x, n, 1) ∧ escT (a :: l) = some (x, n + 1)) ∨ (∃ x n, escRT l = some (x, n, 2) ∧ escT (a :: l) = none) ∨
  (∃ x n b d e x', escRT l = some (x, n, 2) ∧ l.drop n = e :: d ∧ e.toNat = 92 ∧ escRT d = some (x', 5, 2) ∧ escT (a :: l) = some (b, n + 7))
theorem uni_sameT (d : Nat) (a c : UInt8) (l : List UInt8) (hr : escRT (c :: l) = pointR d l) (ht : escT (a :: c :: l) = uniT d (a :: c :: l)) : EscRel a (c :: l) := by
  unfold EscRel
  rw [hr, ht]
  unfold pointR uniT
  simp only [List.length_cons]
  by_cases h1 : l.length < d
  · rw [if_pos h1, if_pos (by omega)]; exact .inl ⟨rfl, rfl⟩
  · rw [if_neg h1, if_neg (by omega)]
    have e1 : (a :: c :: l).drop 2 = l := rfl
    rw [e1]
    rcases hv : hexN 0 (l.take d) with _ | v
    · exact .inl ⟨rfl, rfl⟩
    · simp only
      by_cases h2 : 1114111 < v
      · rw [if_pos h2, if_pos (.inl h2)]; exact .inr (.inr (.inl ⟨_, _, rfl, rfl⟩))
      · rw [if_neg h2]
        by_cases h3 : surrT v = false
        · have := (surrT_iff v).1 h3
          rw [if_pos h3, if_neg (by omega)]
          exact .inr (.inl ⟨_, _, rfl, by rw [show 1 + d + 1 = d + 2 by omega]⟩)
        · have h3' : 55296 ≤ v ∧ v < 57344 := by
            rcases Classical.em (55296 ≤ v ∧ v < 57344) with h | h
            · exact h
            · exact absurd ((surrT_iff v).2 h) h3
          rw [if_neg h3, if_pos (.inr h3')]
          by_cases h5 : l.length + 1 + 1 < d + 8
          · rw [if_pos h5]; exact .inr (.inr (.inl ⟨_, _, rfl, rfl⟩))
          · rw [if_neg h5]
            rcases hu : hexN 0 (((a :: c :: l).drop (d + 4)).take 4) with _ | u
            · exact .inr (.inr (.inl ⟨_, _, rfl, rfl⟩))
            · simp only
              split
              · rename_i h6
                obtain ⟨k1, k2, k3⟩ := h6
                refine .inr (.inr (.inr ⟨_, _, _, l.drop (d + 1), l[d]'(by omega), [], rfl, ?_, ?_, ?_, by rw [show 1 + d + 7 = d + 8 by omega]⟩))
                · rw [Nat.add_comm 1 d, List.drop_succ_cons, List.drop_eq_getElem_cons (by omega)]
                · have : (a :: c :: l).getD (d + 2) 0 = l[d]'(by omega) := by simp [List.getD_eq_getElem?_getD, List.getElem?_eq_getElem (show d < l.length by omega)]
                  rw [this] at k1; exact k1
                · have e2 : (a :: c :: l).getD (d + 3) 0 = l[d + 1]'(by omega) := by simp [List.getD_eq_getElem?_getD, List.getElem?_eq_getElem (show d + 1 < l.length by omega)]
                  rw [e2] at k2
                  rw [List.drop_eq_getElem_cons (by omega), escRT_cons, k2, if_neg (by decide)]
                  have ho : isOct (l[d + 1]'(by omega)) = false := by unfold isOct; simp; omega
                  rw [ho, if_neg (by simp), if_neg (by decide), if_pos rfl]
                  have e3 : (a :: c :: l).drop (d + 4) = l.drop (d + 1 + 1) := by rw [show d + 4 = (d + 1 + 1) + 2 by omega]; rfl
                  rw [e3] at hu
                  unfold pointR
                  rw [if_neg (by simp; omega), hu]
                  simp only
                  have hu2 : 55296 ≤ u ∧ u < 57344 := by
                    unfold pairT at k3
                    split at k3
                    · omega
                    · exact absurd rfl k3
                  rw [if_pos (.inr hu2)]
              · exact .inr (.inr (.inl ⟨_, _, rfl, rfl⟩))
theorem esc_sameT (a : UInt8) (l : List UInt8) : EscRel a l := by
  cases l with
  | nil => exact .inl ⟨rfl, rfl⟩
  | cons c l =>
    have hr := escRT_cons c l
    have ht := escT_cons a c l
    by_cases h1 : escT1 c.toNat ≠ 0
    · rw [if_pos h1] at hr ht
      exact .inr (.inl ⟨_, _, hr, ht⟩)
    · rw [if_neg h1] at hr ht
      by_cases h2 : isOct c = true
      · rw [if_pos h2] at hr ht
        unfold octR at hr
        unfold octT at ht
        split at hr
        · rename_i h
          rw [if_pos h] at ht
          exact .inr (.inr (.inl ⟨_, _, hr, ht⟩))
        · rename_i h
          rw [if_neg h] at ht
          exact .inr (.inl ⟨_, _, hr, by rw [ht, Nat.add_comm]⟩)
      · rw [if_neg h2] at hr ht
        by_cases h3 : c.toNat = 120
        · rw [if_pos h3] at hr ht
          unfold hexR2 at hr
          unfold hexT2 at ht
          by_cases h4 : runN isHex l = 0
          · rw [if_pos h4] at hr ht
            exact .inr (.inr (.inl ⟨_, _, hr, ht⟩))
          · rw [if_neg h4] at hr ht
            obtain ⟨v, hv⟩ := hexT2_R l
            rw [hv] at hr ht
            exact .inr (.inl ⟨_, _, hr, by rw [ht, show 1 + min 2 (runN isHex l) + 1 = 2 + min 2 (runN isHex l) by omega]; rfl⟩)
        · rw [if_neg h3] at hr ht
          by_cases h4 : c.toNat = 117
          · rw [if_pos h4] at hr ht
            exact uni_sameT 4 a c l hr ht
          · rw [if_neg h4] at hr ht
            by_cases h5 : c.toNat = 85
            · rw [if_pos h5] at hr ht
              exact uni_sameT 8 a c l hr ht
            · rw [if_neg h5] at hr ht
              by_cases h6 : c.toNat = 88 ∨ c.toNat = 10
              · rw [if_pos h6] at hr
                exact .inr (.inr (.inl ⟨_, _, hr, ht⟩))
              · rw [if_neg h6] at hr
                exact .inl ⟨hr, ht⟩
/-- once left open, never told to be so -/
theorem refF_two (q : Nat) (whole : List UInt8) : ∀ (f : Nat) (l out : List UInt8), (refF q whole f l out 2).2.1 ≠ 1
  | 0, _, _ => by simp [refF]
  | f + 1, [], _ => by simp [refF]
  | f + 1, c :: l, out => by
    unfold refF
    split
    · simp only
      split <;> simp
    · split
      · simp
      · split
        · rcases he : escRT l with _ | ⟨x, n, ok⟩
          · simp
          · have := escRT_size he
            simp only
            rw [show max 2 ok = 2 by omega]
            exact refF_two q whole f _ _
        · have : (if ctlC c then 2 else 2) = 2 := by split <;> rfl
          rw [this]
          exact refF_two q whole f _ _
theorem refF_told (q : Nat) (whole : List UInt8) : ∀ (f : Nat) (l out : List UInt8) (told : Nat), told ≤ 2 → (refF q whole f l out told).2.1 ≤ 2
  | 0, _, _, _, _ => by simp [refF]
  | f + 1, [], _, _, _ => by simp [refF]
  | f + 1, c :: l, out, told, h => by
    unfold refF
    split
    · simp only
      split <;> omega
    · split
      · simp
      · split
        · rcases he : escRT l with _ | ⟨x, n, ok⟩
          · simp
          · have := escRT_size he
            exact refF_told q whole f _ _ _ (by omega)
        · exact refF_told q whole f _ _ _ (by split <;> omega)
/-- what is told to be so is UTF-8 -/
theorem refF_utf8 (q : Nat) (whole : List UInt8) : ∀ (f : Nat) (pre l out : List UInt8) (told : Nat), whole = pre ++ l → (refF q whole f l out told).2.1 = 1 → ∃ j, 1 ≤ j ∧ j ≤ l.length ∧ utf8V (pre ++ l.take j) = true
  | 0, _, _, _, _, _, h => by simp [refF] at h
  | f + 1, _, [], _, _, _, h => by simp [refF] at h
  | f + 1, pre, c :: l, out, told, hw, h => by
    have step : ∀ (m : Nat) (out' : List UInt8) (told' : Nat), m ≤ l.length → (refF q whole f (l.drop m) out' told').2.1 = 1 → ∃ j, 1 ≤ j ∧ j ≤ (c :: l).length ∧ utf8V (pre ++ (c :: l).take j) = true := by
      intro m out' told' hm h'
      obtain ⟨j, h1, h2, h3⟩ := refF_utf8 q whole f (pre ++ (c :: l).take (m + 1)) (l.drop m) out' told' (by rw [hw, List.append_assoc]; congr 1; rw [List.take_succ_cons, List.cons_append, List.take_append_drop]) h'
      refine ⟨m + 1 + j, by omega, by simp at h2 ⊢; omega, ?_⟩
      rw [List.append_assoc] at h3
      rw [List.take_add]
      exact h3
    unfold refF at h
    split at h
    · simp only at h
      refine ⟨1, Nat.le_refl _, by simp, ?_⟩
      have e : whole.take (whole.length - l.length) = pre ++ (c :: l).take 1 := by
        have : whole = (pre ++ [c]) ++ l := by rw [hw]; simp
        rw [this]
        have e2 : ((pre ++ [c]) ++ l).length - l.length = (pre ++ [c]).length := by simp; omega
        rw [e2, List.take_left']
        · simp
        · rfl
      rw [e] at h
      split at h
      · assumption
      · cases h
    · split at h
      · cases h
      · split at h
        · rcases he : escRT l with _ | ⟨x, n, ok⟩
          · rw [he] at h; cases h
          · rw [he] at h
            exact step n _ _ (escRT_size he).1 h
        · exact step 0 _ _ (Nat.zero_le _) h
theorem u8_val {c : UInt8} {l : List UInt8} {v n : Nat} (h : u8char (c :: l) = some (v, n)) (hc : 128 ≤ c.toNat) : 128 ≤ v := by
  rw [u8char_cons, if_neg (by omega)] at h
  rcases hh : u8head c.toNat with _ | ⟨k, least, first⟩
  · rw [hh] at h; cases h
  · rw [hh] at h
    simp only at h
    have hk := u8head_le hh
    rcases ht : u8take k first l with _ | v'
    · rw [ht] at h; cases h
    · rw [ht] at h
      simp only at h
      split at h
      · rename_i ho
        unfold u8ok at ho
        simp at ho
        cases h
        omega
      · cases h
theorem u8_high {c : UInt8} {l : List UInt8} {v n : Nat} (h : u8char (c :: l) = some (v, n)) (hc : 128 ≤ c.toNat) : ∀ b ∈ (c :: l).take n, 128 ≤ b.toNat := by
  have take : ∀ (k a v : Nat) (l : List UInt8), u8take k a l = some v → ∀ b ∈ l.take k, 128 ≤ b.toNat := by
    intro k
    induction k with
    | zero => intro a v l _ b hb; simp at hb
    | succ k ih =>
      intro a v l h b hb
      cases l with
      | nil => simp at hb
      | cons d l =>
        unfold u8take at h
        split at h
        · rename_i hd
          rw [List.take_succ_cons, List.mem_cons] at hb
          rcases hb with rfl | hb
          · unfold contB at hd; simp at hd; omega
          · exact ih _ _ _ h b hb
        · cases h
  rw [u8char_cons, if_neg (by omega)] at h
  rcases hh : u8head c.toNat with _ | ⟨k, least, first⟩
  · rw [hh] at h; cases h
  · rw [hh] at h
    simp only at h
    rcases ht : u8take k first l with _ | v'
    · rw [ht] at h; cases h
    · rw [ht] at h
      simp only at h
      split at h
      · injection h with h
        injection h with _ h
        subst h
        intro b hb
        rw [List.take_succ_cons, List.mem_cons] at hb
        rcases hb with rfl | hb
        · exact hc
        · exact take k _ _ _ ht b hb
      · cases h
theorem refT_high {q : Nat} (hq : q < 128) {whole : List UInt8} : ∀ (x l out : List UInt8) (told : Nat), (∀ b ∈ x, 128 ≤ b.toNat) → refT q whole (x ++ l) out told = refT q whole l (out ++ x) told
  | [], l, out, told, _ => by simp
  | c :: x, l, out, told, h => by
    have hc := h c (by simp)
    have hk : ctlC c = false := by unfold ctlC; simp; omega
    rw [List.cons_append, refT_cons, if_neg (by omega), if_neg (by omega), if_neg (by omega), hk, if_neg (by simp), refT_high hq x l _ _ (fun b hb => h b (by simp [hb]))]
    simp
def RelT (R : List UInt8 × Nat × Nat) (y : Option (List UInt8 × Nat)) : Prop := R.2.1 = 2 ∨ (R.2.1 = 1 ∧ y = some (R.1, R.2.2)) ∨ (R.2.1 = 0 ∧ y = none)
theorem RelT.open {q : Nat} {whole l out : List UInt8} {told : Nat} (h : told ≤ 2) (h1 : (refT q whole l out told).2.1 ≠ 1) : RelT (refT q whole l out told) none := by
  have := refF_told q whole l.length l out told h
  unfold refT at h1
  rcases (show (refF q whole l.length l out told).2.1 = 2 ∨ (refF q whole l.length l out told).2.1 = 0 by omega) with h2 | h2
  · exact .inl h2
  · exact .inr (.inr ⟨h2, rfl⟩)
theorem ref_same (q : Nat) (hq : q = 34 ∨ q = 39) (whole : List UInt8) : ∀ (f : Nat) (pre l out out' : List UInt8) (told : Nat), l.length ≤ f → whole = pre ++ l → Neutral pre → (told = 1 ∧ out = out' ∨ told = 2) → RelT (refT q whole l out told) (strT q l out')
  | _, _, [], _, _, _, _, _, _, _ => .inr (.inr ⟨rfl, rfl⟩)
  | 0, _, c :: l, _, _, _, h, _, _, _ => by simp at h
  | f + 1, pre, c :: l, out, out', told, hf, hw, hn, ht => by
    simp only [List.length_cons] at hf
    have ht2 : told ≤ 2 := by omega
    rcases hu : u8char (c :: l) with _ | ⟨v, n⟩
    · rw [strT_none hu]
      refine RelT.open ht2 fun h1 => ?_
      obtain ⟨j, j1, j2, j3⟩ := refF_utf8 q whole _ pre (c :: l) out told hw h1
      rw [hn] at j3
      have hne : (c :: l).take j ≠ [] := by
        intro e
        have := congrArg List.length e
        simp at this; omega
      rcases hx : u8char ((c :: l).take j) with _ | ⟨v, m⟩
      · rw [utf8V_none hne hx] at j3; cases j3
      · have := u8char_take (r := ((c :: l).take j).drop m ++ (c :: l).drop j) hx
        rw [← List.append_assoc, List.take_append_drop, List.take_append_drop, hu] at this
        cases this
    · have hs := u8char_size hu
      rw [strT_some hu]
      by_cases hc : c.toNat < 128
      · have hu' := hu
        rw [u8char_cons, if_pos hc] at hu'
        injection hu' with hu'
        injection hu' with hv h1
        subst hv h1
        rw [refT_cons]
        have hn1 : Neutral (pre ++ [c]) := neutral_char hn hu
        have hw1 : whole = (pre ++ [c]) ++ l := by rw [hw]; simp
        by_cases h0 : c.toNat = 0
        · rw [if_pos (show c.toNat = 0 ∨ c.toNat = 10 from .inl h0), if_neg (show ¬ c.toNat = q by omega), if_neg (show ¬ c.toNat = 10 by omega), if_neg (show ¬ c.toNat = 92 by omega)]
          have : ctlC c = true := by unfold ctlC; simp; omega
          rw [this, if_pos rfl]
          exact RelT.open (Nat.le_refl _) (refF_two q whole _ _ _)
        · by_cases h10 : c.toNat = 10
          · rw [if_pos (show c.toNat = 0 ∨ c.toNat = 10 from .inr h10), if_neg (show ¬ c.toNat = q by omega), if_pos h10]
            exact .inr (.inr ⟨rfl, rfl⟩)
          · rw [if_neg (show ¬ (c.toNat = 0 ∨ c.toNat = 10) by omega)]
            by_cases hcq : c.toNat = q
            · rw [if_pos hcq, if_pos hcq]
              have e : whole.take (whole.length - l.length) = pre ++ [c] := by
                rw [hw1]
                have e2 : ((pre ++ [c]) ++ l).length - l.length = (pre ++ [c]).length := by simp; omega
                rw [e2, List.take_left']
                rfl
              have hut : utf8V (pre ++ [c]) = true := by
                have := hn1 []
                rw [List.append_nil] at this
                rw [this]; rfl
              rw [e, hut, if_pos rfl]
              rcases ht with ⟨rfl, rfl⟩ | rfl
              · exact .inr (.inl ⟨rfl, by simp⟩)
              · exact .inl rfl
            · rw [if_neg hcq, if_neg hcq, if_neg h10]
              by_cases h92 : c.toNat = 92
              · rw [if_pos h92, if_pos h92]
                have hes : ∀ {l x : List UInt8} {n ok : Nat} {pre : List UInt8}, Neutral (pre ++ [c]) → escRT l = some (x, n, ok) → Neutral (pre ++ [c] ++ l.take n) := fun h he => neutral_ascii h _ (escRT_ascii he)
                rcases esc_sameT c l with ⟨h1, h2⟩ | ⟨x, n, h1, h2⟩ | ⟨x, n, h1, h2⟩ | ⟨x, n, b, d, e, x', h1, h3, h4, h5, h2⟩
                · rw [h1, h2]; exact .inr (.inr ⟨rfl, rfl⟩)
                · rw [h1, h2]
                  have hz := escRT_size h1
                  simp only [List.drop_succ_cons]
                  refine ref_same q hq whole f _ (l.drop n) _ _ _ (by simp; omega) ?_ (hes hn1 h1) ?_
                  · rw [hw1, List.append_assoc (pre ++ [c]), List.take_append_drop]
                  · rcases ht with ⟨rfl, rfl⟩ | rfl
                    · exact .inl ⟨rfl, rfl⟩
                    · exact .inr rfl
                · rw [h1, h2]
                  simp only
                  rw [show max told 2 = 2 by omega]
                  exact RelT.open (Nat.le_refl _) (refF_two q whole _ _ _)
                · rw [h1, h2]
                  have hz := escRT_size h1
                  have hz2 := escRT_size h5
                  have hld : l.length = n + 1 + d.length := by have := congrArg List.length h3; simp at this; omega
                  simp only [List.drop_succ_cons]
                  rw [show max told 2 = 2 by omega, h3, refT_cons, if_neg (by omega), if_neg (by omega), if_pos h4, h5]
                  simp only
                  rw [show max 2 2 = 2 by rfl]
                  have e1 : l.drop (n + 6) = d.drop 5 := by rw [show n + 6 = n + 6 from rfl, ← List.drop_drop, h3]; rfl
                  rw [e1]
                  have hn2 : Neutral (pre ++ [c] ++ l.take n ++ [e]) := neutral_ascii (hes hn1 h1) [e] (by intro b hb; simp at hb; subst hb; omega)
                  refine ref_same q hq whole f (pre ++ [c] ++ l.take n ++ [e] ++ d.take 5) (d.drop 5) _ _ _ (by simp; omega) ?_ (neutral_ascii hn2 _ (escRT_ascii h5)) (.inr rfl)
                  rw [hw1]
                  conv => lhs; rw [← List.take_append_drop n l, h3]
                  simp
              · rw [if_neg h92, if_neg h92]
                simp only [List.drop_succ_cons, List.drop_zero, List.take_succ_cons, List.take_zero]
                refine ref_same q hq whole f _ l _ _ _ (by omega) hw1 hn1 ?_
                rcases ht with ⟨rfl, rfl⟩ | rfl
                · split
                  · exact .inr rfl
                  · exact .inl ⟨rfl, rfl⟩
                · exact .inr (by split <;> rfl)
      · have hv := u8_val hu (by omega)
        rw [if_neg (by omega), if_neg (by omega), if_neg (by omega)]
        have hh := u8_high hu (by omega)
        have e := refT_high (q := q) (by omega) (whole := whole) ((c :: l).take n) ((c :: l).drop n) out told hh
        rw [List.take_append_drop] at e
        rw [e]
        refine ref_same q hq whole f _ ((c :: l).drop n) _ _ _ (by simp; omega) ?_ (neutral_char hn hu) ?_
        · rw [hw, List.append_assoc, List.take_append_drop]
        · rcases ht with ⟨rfl, rfl⟩ | rfl
          · exact .inl ⟨rfl, rfl⟩
          · exact .inr rfl
/-- a whole quoted text: the reference leaves it open, or the package tells the same -/
theorem unquote_same (s : List UInt8) : (refU s).2 = 2 ∨ ((refU s).2 = 1 ∧ unqT s = some (refU s).1) ∨ ((refU s).2 = 0 ∧ unqT s = none) := by
  cases s with
  | nil => exact .inr (.inr ⟨rfl, rfl⟩)
  | cons c r =>
    show (refUC c r).2 = 2 ∨ ((refUC c r).2 = 1 ∧ (match strT c.toNat r [] with
      | none => none
      | some (s, _) => some s) = some (refUC c r).1) ∨ ((refUC c r).2 = 0 ∧ (match strT c.toNat r [] with
      | none => none
      | some (s, _) => some s) = none)
    unfold refUC
    by_cases hq : c.toNat ≠ 34 ∧ c.toNat ≠ 39
    · rw [if_pos hq]; exact .inl rfl
    · rw [if_neg hq]
      have hn : Neutral [c] := neutral_char (pre := []) (l := [c]) (fun x => rfl) (c := c.toNat) (n := 1) (by rw [u8char_cons, if_pos (by omega)])
      have h := ref_same c.toNat (by omega) (c :: r) r.length [c] r [] [] 1 (Nat.le_refl _) rfl hn (.inl ⟨rfl, rfl⟩)
      unfold refT at h
      rcases hR : refF c.toNat (c :: r) r.length r [] 1 with ⟨o, t, m⟩
      rw [hR] at h
      unfold RelT at h
      simp only at h ⊢
      rcases h with rfl | ⟨rfl, h⟩ | ⟨rfl, h⟩
      · exact .inl rfl
      · rw [h, if_neg (by simp)]
        split
        · exact .inl rfl
        · exact .inr (.inl ⟨rfl, rfl⟩)
      · rw [h, if_pos (by simp)]
        exact .inr (.inr ⟨rfl, rfl⟩)
end Go.Proofs.YtgdnpnipahegaaaDoor
