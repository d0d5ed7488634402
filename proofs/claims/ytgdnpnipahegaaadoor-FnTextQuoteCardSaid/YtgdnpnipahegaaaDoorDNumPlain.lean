/-
  A number of JSON as the package reads it: how many bytes it has. Plain functions.
-/
import Derived.Test.YtgdnpnipahegaaaDoorViews
namespace Go.Proofs.YtgdnpnipahegaaaDoor

def isDg (c : UInt8) : Bool := decide (48 ≤ c.toNat) && decide (c.toNat ≤ 57)
/-- how many digits at the beginning -/
def digN : List UInt8 → Nat
  | [] => 0
  | c :: l => if isDg c then digN l + 1 else 0
theorem digN_le : ∀ l, digN l ≤ l.length
  | [] => Nat.le_refl _
  | c :: l => by unfold digN; split <;> simp; exact digN_le l
def notDel (c : UInt8) : Bool :=
  c.toNat == 45 || c.toNat == 43 || c.toNat == 46 || c.toNat == 95 || (decide (97 ≤ c.toNat) && decide (c.toNat ≤ 122)) || (decide (65 ≤ c.toNat) && decide (c.toNat ≤ 90)) || isDg c
def intN : List UInt8 → Option Nat
  | [] => none
  | c :: l => if c.toNat = 48 then some 1 else if 49 ≤ c.toNat ∧ c.toNat ≤ 57 then some (1 + digN l) else none
def fracN : List UInt8 → Nat
  | a :: d :: l => if a.toNat = 46 ∧ isDg d = true then 2 + digN l else 0
  | _ => 0
def expN : List UInt8 → Option Nat
  | a :: d :: l => if a.toNat = 101 ∨ a.toNat = 69 then (if d.toNat = 43 ∨ d.toNat = 45 then (if l = [] then none else some (2 + digN l)) else some (1 + digN (d :: l))) else some 0
  | _ => some 0
def negN : List UInt8 → Nat
  | c :: _ => if c.toNat = 45 then 1 else 0
  | [] => 0
def numJ (l : List UInt8) : Option Nat := match intN (l.drop (negN l)) with
  | none => none
  | some i => match expN (l.drop (negN l + i + fracN (l.drop (negN l + i)))) with
    | none => none
    | some e => let n := negN l + i + fracN (l.drop (negN l + i)) + e
      match l.drop n with
      | c :: _ => if notDel c then none else some n
      | [] => some n
theorem intN_cons (c : UInt8) (l : List UInt8) : intN (c :: l) = if c.toNat = 48 then some 1 else if 49 ≤ c.toNat ∧ c.toNat ≤ 57 then some (1 + digN l) else none := rfl
theorem fracN_two (a d : UInt8) (l : List UInt8) : fracN (a :: d :: l) = if a.toNat = 46 ∧ isDg d = true then 2 + digN l else 0 := rfl
theorem expN_two (a d : UInt8) (l : List UInt8) : expN (a :: d :: l) = if a.toNat = 101 ∨ a.toNat = 69 then (if d.toNat = 43 ∨ d.toNat = 45 then (if l = [] then none else some (2 + digN l)) else some (1 + digN (d :: l))) else some 0 := rfl
theorem digN_cons (c : UInt8) (l : List UInt8) : digN (c :: l) = if isDg c then digN l + 1 else 0 := rfl
theorem intN_le {l : List UInt8} {i : Nat} (h : intN l = some i) : 1 ≤ i ∧ i ≤ l.length := by
  cases l with
  | nil => cases h
  | cons c l =>
    rw [intN_cons] at h
    by_cases h1 : c.toNat = 48
    · rw [if_pos h1] at h
      injection h with h
      subst h; simp
    · rw [if_neg h1] at h
      by_cases h2 : 49 ≤ c.toNat ∧ c.toNat ≤ 57
      · rw [if_pos h2] at h
        injection h with h
        have := digN_le l
        subst h; simp; omega
      · rw [if_neg h2] at h; cases h
theorem fracN_le (l : List UInt8) : fracN l ≤ l.length := by
  match l with
  | [] => simp [fracN]
  | [_] => simp [fracN]
  | a :: d :: l =>
    have := digN_le l
    rw [fracN_two]
    simp only [List.length_cons]
    split <;> omega
theorem expN_le {l : List UInt8} {e : Nat} (h : expN l = some e) : e ≤ l.length := by
  match l with
  | [] => simp [expN] at h; omega
  | [_] => simp [expN] at h; omega
  | a :: d :: l =>
    have h1 := digN_le l
    have h2 := digN_le (d :: l)
    simp only [List.length_cons] at h2 ⊢
    rw [expN_two] at h
    by_cases c1 : a.toNat = 101 ∨ a.toNat = 69
    · rw [if_pos c1] at h
      by_cases c2 : d.toNat = 43 ∨ d.toNat = 45
      · rw [if_pos c2] at h
        by_cases c3 : l = []
        · rw [if_pos c3] at h; cases h
        · rw [if_neg c3] at h; injection h with h; omega
      · rw [if_neg c2] at h; injection h with h; omega
    · rw [if_neg c1] at h; injection h with h; omega
theorem negN_le (l : List UInt8) : negN l ≤ l.length ∧ negN l ≤ 1 := by
  unfold negN; split
  · split <;> simp
  · simp
theorem numJ_le {l : List UInt8} {n : Nat} (h : numJ l = some n) : 1 ≤ n ∧ n ≤ l.length := by
  unfold numJ at h
  rcases hi : intN (l.drop (negN l)) with _ | i
  · rw [hi] at h; cases h
  · rw [hi] at h
    simp only at h
    have h1 := intN_le hi
    have h0 := negN_le l
    have h2 := fracN_le (l.drop (negN l + i))
    simp only [List.length_drop] at h1 h2
    rcases he : expN (l.drop (negN l + i + fracN (l.drop (negN l + i)))) with _ | e
    · rw [he] at h; cases h
    · rw [he] at h
      simp only at h
      have h3 := expN_le he
      simp only [List.length_drop] at h3
      rcases hd : l.drop (negN l + i + fracN (l.drop (negN l + i)) + e) with _ | ⟨c, r⟩
      · rw [hd] at h; simp only [Option.some.injEq] at h; omega
      · rw [hd] at h
        simp only at h
        cases hn : notDel c with
        | true => rw [hn] at h; cases h
        | false => rw [hn] at h; simp at h; omega
end Go.Proofs.YtgdnpnipahegaaaDoor
