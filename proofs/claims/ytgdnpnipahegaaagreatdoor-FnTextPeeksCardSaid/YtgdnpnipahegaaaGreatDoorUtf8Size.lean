/-
 UTF-8: how many bytes the character at the beginning has, as the reference reads it.
-/
import Derived.Test.YtgdnpnipahegaaaGreatDoorJB
namespace Go.Proofs.YtgdnpnipahegaaaGreatDoor
open Go.ChangeShapes Go.WideShapes Go.ChangeAt Go.RowKit

def encLen (c : Nat) : Nat := if c < 128 then 1 else if c < 2048 then 2 else if c < 65536 then 3 else 4
theorem encU_len (c : Nat) : (encU c).length = encLen c := by
 unfold encU encLen
 repeat' split
 all_goals rfl
def u8size (l : List UInt8) : Nat := match u8char l with
 | some (_, n) => n
 | none => 0
def head2 (c : Nat) : Option (Nat × Nat) := if 192 ≤ c ∧ c < 224 then some (1, c % 32) else if 224 ≤ c ∧ c < 240 then some (2, c % 16) else if 240 ≤ c ∧ c < 248 then some (3, c % 8) else none
def ok2 (n v : Nat) : Bool := decide (v ≤ 1114111) && !(decide (55296 ≤ v) && decide (v < 57344)) && encLen v == n
def size2 : List UInt8 → Nat
 | [] => 0
 | c :: l => if c.toNat < 128 then 1 else match head2 c.toNat with
  | none => 0
  | some (n, first) => match u8take n first l with
   | none => 0
   | some v => if ok2 (n + 1) v then n + 1 else 0
theorem u8take_bd : ∀ (n acc : Nat) (l : List UInt8) (v : Nat), u8take n acc l = some v → acc * 64 ^ n ≤ v ∧ v < (acc + 1) * 64 ^ n
 | 0, acc, l, v, h => by simp [u8take] at h; subst h; simp
 | n + 1, acc, [], v, h => by simp [u8take] at h
 | n + 1, acc, c :: l, v, h => by
  unfold u8take at h
  split at h
  ·have ih := u8take_bd n _ l v h
   have hp : 64 ^ (n + 1) = 64 * 64 ^ n := by rw [Nat.pow_succ, Nat.mul_comm]
   have h1 : c.toNat % 64 < 64 := Nat.mod_lt _ (by decide)
   refine ⟨?_, ?_⟩
   ·rw [hp, ← Nat.mul_assoc]; exact Nat.le_trans (Nat.mul_le_mul_right _ (Nat.le_add_right _ _)) ih.1
   ·rw [hp, ← Nat.mul_assoc]; exact Nat.lt_of_lt_of_le ih.2 (Nat.mul_le_mul_right _ (by omega))
  ·cases h
theorem ok_same (n least v : Nat) (h : encLen v = n ↔ least ≤ v) : ok2 n v = u8ok least v := by
 unfold ok2 u8ok
 rw [Bool.eq_iff_iff]
 simp only [Bool.and_eq_true, beq_iff_eq, h, decide_eq_true_eq]
 constructor
 ·rintro ⟨⟨a, b⟩, c⟩; exact ⟨⟨c, a⟩, b⟩
 ·rintro ⟨⟨a, b⟩, c⟩; exact ⟨⟨b, c⟩, a⟩
theorem size2_cons (c : UInt8) (l : List UInt8) : size2 (c :: l) = if c.toNat < 128 then 1 else match head2 c.toNat with
  | none => 0
  | some (n, first) => match u8take n first l with
   | none => 0
   | some v => if ok2 (n + 1) v then n + 1 else 0 := rfl
theorem size2_eq (l : List UInt8) : u8size l = size2 l := by
 cases l with
 | nil => rfl
 | cons c l =>
  rw [size2_cons]
  unfold u8size
  rw [u8char_cons]
  by_cases h1 : c.toNat < 128
  ·rw [if_pos h1, if_pos h1]
  ·rw [if_neg h1, if_neg h1]
   have key : ∀ (n least first : Nat), u8head c.toNat = some (n, least, first) → head2 c.toNat = some (n, first) → (∀ v, first * 64 ^ n ≤ v → v < (first + 1) * 64 ^ n → (encLen v = n + 1 ↔ least ≤ v)) →
     (match (match u8head c.toNat with
      | none => none
      | some (n, least, first) => match u8take n first l with
       | none => none
       | some v => if u8ok least v then some (v, n + 1) else none : Option (Nat × Nat)) with
      | some (_, n) => n
      | none => 0) = (match head2 c.toNat with
      | none => 0
      | some (n, first) => match u8take n first l with
       | none => 0
       | some v => if ok2 (n + 1) v then n + 1 else 0) := by
    intro n least first e1 e2 hv
    rw [e1, e2]
    simp only
    rcases ht : u8take n first l with _ | v
    ·rfl
    ·have hb := u8take_bd _ _ _ _ ht
     have := ok_same (n + 1) least v (hv v hb.1 hb.2)
     simp only [this]
     cases u8ok least v <;> rfl
   by_cases h2 : 194 ≤ c.toNat ∧ c.toNat < 224
   ·refine key 1 128 (c.toNat % 32) (by unfold u8head; rw [if_pos h2]) (by unfold head2; rw [if_pos (by omega)]) fun v hl hu => ?_
    unfold encLen
    repeat' split
    all_goals omega
   ·by_cases h3 : 224 ≤ c.toNat ∧ c.toNat < 240
    ·refine key 2 2048 (c.toNat % 16) (by unfold u8head; rw [if_neg h2, if_pos h3]) (by unfold head2; rw [if_neg (by omega), if_pos h3]) fun v hl hu => ?_
     unfold encLen
     repeat' split
     all_goals omega
    ·by_cases h4 : 240 ≤ c.toNat ∧ c.toNat < 245
     ·refine key 3 65536 (c.toNat % 8) (by unfold u8head; rw [if_neg h2, if_neg h3, if_pos h4]) (by unfold head2; rw [if_neg (by omega), if_neg h3, if_pos (by omega)]) fun v hl hu => ?_
      unfold encLen
      repeat' split
      all_goals omega
     ·have e1 : u8head c.toNat = none := by unfold u8head; rw [if_neg h2, if_neg h3, if_neg h4]
      rw [e1]
      simp only
      by_cases h5 : 192 ≤ c.toNat ∧ c.toNat < 224
      ·have e2 : head2 c.toNat = some (1, c.toNat % 32) := by unfold head2; rw [if_pos h5]
       rw [e2]
       simp only
       rcases ht : u8take 1 (c.toNat % 32) l with _ | v
       ·rfl
       ·have hb := u8take_bd _ _ _ _ ht
        have : ok2 (1 + 1) v = false := by
         unfold ok2 encLen
         rw [if_pos (by omega)]
         simp
        simp only [this]
        rfl
      ·by_cases h6 : 240 ≤ c.toNat ∧ c.toNat < 248
       ·have e2 : head2 c.toNat = some (3, c.toNat % 8) := by unfold head2; rw [if_neg h5, if_neg h3, if_pos h6]
        rw [e2]
        simp only
        rcases ht : u8take 3 (c.toNat % 8) l with _ | v
        ·rfl
        ·have hb := u8take_bd _ _ _ _ ht
         have : ok2 (3 + 1) v = false := by
          unfold ok2
          rw [show decide (v ≤ 1114111) = false from decide_eq_false (by omega)]
          rfl
         simp only [this]
         rfl
       ·have e2 : head2 c.toNat = none := by unfold head2; rw [if_neg h5, if_neg h3, if_neg h6]
        rw [e2]
end Go.Proofs.YtgdnpnipahegaaaGreatDoor
