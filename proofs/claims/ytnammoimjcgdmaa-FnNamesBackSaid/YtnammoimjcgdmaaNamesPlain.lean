/-
  Plain facts on names as lists of bytes: names of small letters, digits and single underscores come back from JSON's; and the other way round. No program in sight.
-/
import Derived.Test.YtnammoimjcgdmaaCamel
namespace Go.Proofs.Ytnammoimjcgdmaa
open Go.RowKit

def cf : Bool → List UInt8 → List UInt8
  | _, [] => []
  | und, c :: l => if c.toNat == 95 then cf true l else (if und then upB c else c) :: cf false l
theorem foldl_cf : ∀ (l : List UInt8) (out : List UInt8) (und : Bool), (l.foldl (wstep upB id) (out, und)).1 = out ++ cf und l
  | [], out, und => by simp [cf]
  | c :: l, out, und => by
    rw [List.foldl_cons, show wstep upB id (out, und) c = if c.toNat == 95 then (out, true) else (out ++ [if und then upB c else id c], false) from rfl, cf]
    split
    · exact foldl_cf l out true
    · rw [foldl_cf l]; simp
theorem camel_cf (l : List UInt8) : camel l = cf false l := by
  unfold camel wordsSt
  rw [foldl_cf]; simp

/-- a small letter, a digit, or an underscore ahead of a small letter -/
def okS (c d : Int) : Prop := (97 ≤ c ∧ c ≤ 122) ∨ (48 ≤ c ∧ c ≤ 57) ∨ (c = 95 ∧ 97 ≤ d ∧ d ≤ 122)
def okC (c : Int) : Prop := (97 ≤ c ∧ c ≤ 122) ∨ (48 ≤ c ∧ c ≤ 57) ∨ (65 ≤ c ∧ c ≤ 90)
def hd (l : List UInt8) : Int := match l with | [] => 0 | d :: _ => (d.toNat : Int)
def SOk : List UInt8 → Prop
  | [] => True
  | c :: l => okS c.toNat (hd l) ∧ SOk l

theorem isUp_no {c : UInt8} (h : ¬ (65 ≤ (c.toNat : Int) ∧ (c.toNat : Int) ≤ 90)) : isUp c.toNat = false := by
  simp only [isUp, Bool.and_eq_false_iff, decide_eq_false_iff_not]; omega
theorem isUp_yes {c : UInt8} (h : 65 ≤ (c.toNat : Int) ∧ (c.toNat : Int) ≤ 90) : isUp c.toNat = true := by
  simp only [isUp, Bool.and_eq_true, decide_eq_true_eq]; omega
theorem isLow_yes {c : UInt8} (h : 97 ≤ (c.toNat : Int) ∧ (c.toNat : Int) ≤ 122) : isLow c.toNat = true := by
  simp only [isLow, Bool.and_eq_true, decide_eq_true_eq]; omega
theorem isLow_no {c : UInt8} (h : ¬ (97 ≤ (c.toNat : Int) ∧ (c.toNat : Int) ≤ 122)) : isLow c.toNat = false := by
  simp only [isLow, Bool.and_eq_false_iff, decide_eq_false_iff_not]; omega
theorem not_und {c : UInt8} (h : (c.toNat : Int) ≠ 95) : (c.toNat == 95) = false := by simp; omega

theorem snake1_upB {d : UInt8} (h : 97 ≤ (d.toNat : Int) ∧ (d.toNat : Int) ≤ 122) : snake1 (upB d) = [95, d] ∧ ((upB d).toNat == 95) = false := by
  have e : (d - 32).toNat = d.toNat - 32 := by rw [UInt8.toNat_sub]; simp; omega
  have h1 : upB d = d - 32 := by unfold upB; rw [isLow_yes h]; rfl
  rw [h1]
  refine ⟨?_, by rw [e]; simp; omega⟩
  unfold snake1
  rw [isUp_yes (by rw [e]; omega)]
  simp

theorem snake_back : ∀ l : List UInt8, (SOk l → snake (cf false l) = l) ∧ (SOk l → 97 ≤ hd l ∧ hd l ≤ 122 → snake (cf true l) = 95 :: l)
  | [] => ⟨fun _ => rfl, fun _ h => by simp [hd] at h⟩
  | c :: l => by
    obtain ⟨ihA, ihB⟩ := snake_back l
    constructor
    · intro h
      by_cases hc : (c.toNat : Int) = 95
      · have h2 := h.1
        unfold okS at h2
        have hc1 : (c.toNat == 95) = true := by simp; omega
        have hc2 : c = 95 := UInt8.toNat.inj (by simp; omega)
        rw [cf, hc1, if_pos rfl, ihB h.2 (by omega), hc2]
      · have h2 := h.1
        unfold okS at h2
        rw [cf, not_und hc]
        simp only [Bool.false_eq_true, if_false]
        rw [show snake (c :: cf false l) = snake1 c ++ snake (cf false l) by simp [snake], ihA h.2]
        unfold snake1
        rw [isUp_no (by omega)]
        rfl
    · intro h hl
      have hl' : 97 ≤ (c.toNat : Int) ∧ (c.toNat : Int) ≤ 122 := hl
      rw [cf, not_und (by omega)]
      simp only [Bool.false_eq_true, if_false, if_true]
      rw [show snake (upB c :: cf false l) = snake1 (upB c) ++ snake (cf false l) by simp [snake], ihA h.2, (snake1_upB hl').1]
      rfl

theorem camel_back : ∀ l : List UInt8, (∀ c ∈ l, okC c.toNat) → cf false (snake l) = l
  | [], _ => rfl
  | c :: l, h => by
    have ih := camel_back l (fun x hx => h x (by simp [hx]))
    have hc := h c (by simp)
    unfold okC at hc
    rw [show snake (c :: l) = snake1 c ++ snake l by simp [snake]]
    by_cases hu : 65 ≤ (c.toNat : Int) ∧ (c.toNat : Int) ≤ 90
    · have e : (c + 32).toNat = c.toNat + 32 := by rw [UInt8.toNat_add]; simp; omega
      unfold snake1
      rw [isUp_yes hu]
      simp only [if_true, List.cons_append, List.nil_append]
      rw [cf, show ((95 : UInt8).toNat == 95) = true from rfl, if_pos rfl, cf, not_und (by rw [e]; omega)]
      simp only [Bool.false_eq_true, if_false, if_true]
      rw [ih]
      unfold upB
      rw [isLow_yes (by rw [e]; omega)]
      simp
    · unfold snake1
      rw [isUp_no hu]
      simp only [Bool.false_eq_true, if_false, List.cons_append, List.nil_append]
      rw [cf, not_und (by omega), ih]
      simp

def nxt (s : ByteArray) (i : Nat) : Int := if h : i + 1 < s.size then (s[i + 1].toNat : Int) else 0
def GoodS (s : ByteArray) (i : Nat) : Prop := ∃ h : i < s.size, okS s[i].toNat (nxt s i)
def GoodC (s : ByteArray) (i : Nat) : Prop := ∃ h : i < s.size, okC s[i].toNat

theorem sok_of : ∀ l : List UInt8, (∀ i, (h : i < l.length) → okS l[i].toNat (hd (l.drop (i + 1)))) → SOk l
  | [], _ => trivial
  | c :: l, h => ⟨h 0 (by simp), sok_of l (fun i hi => h (i + 1) (by simpa using hi))⟩
theorem nxt_hd (s : ByteArray) (i : Nat) : nxt s i = hd (s.data.toList.drop (i + 1)) := by
  unfold nxt
  split
  · rename_i h
    rw [List.drop_eq_getElem_cons (by simpa using h)]
    rfl
  · rename_i h
    rw [List.drop_eq_nil_of_le (by simp; omega)]
    rfl
theorem back1 (s : ByteArray) (h : ∀ i, i < s.size → GoodS s i) : snake (camel s.data.toList) = s.data.toList := by
  rw [camel_cf]
  refine (snake_back _).1 (sok_of _ fun i hi => ?_)
  obtain ⟨h1, h2⟩ := h i (by simpa using hi)
  rw [← nxt_hd]
  exact h2
theorem back2 (s : ByteArray) (h : ∀ i, i < s.size → GoodC s i) : camel (snake s.data.toList) = s.data.toList := by
  rw [camel_cf]
  refine camel_back _ fun c hc => ?_
  obtain ⟨i, hi, rfl⟩ := List.mem_iff_getElem.1 hc
  obtain ⟨h1, h2⟩ := h i (by simpa using hi)
  exact h2
theorem camel_len (l : List UInt8) : (camel l).length ≤ l.length := wordsSt_len _ _ _ _
end Go.Proofs.Ytnammoimjcgdmaa
