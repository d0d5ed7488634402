/-
 UTF-8: the characters of a text, as the laws' own check and the reference read them.
-/
import Derived.Test.YtgdnpnipahegaaaGreatDoorJA
import Derived.Laws.BitsLemmas
import Derived.Deep.QuietTactic
import Derived.BigQuiet
import Derived.Shelf.Unicode.DecodeSlow
import Derived.Lib.OthersKept
import Derived.Lib.IfaceEq
import Derived.Lib.Strings
import Derived.Lib.UnsafeStr
import Derived.Lib.Hide
import Derived.Laws.MakeOwn
import Derived.Lib.BufferWrite
import Derived.Lib.AtoiErrMem
import Derived.Deep.RegionWith
import Derived.BigCall
import Derived.BigGuard

namespace Go.Proofs.YtgdnpnipahegaaaGreatDoor
open Go.ChangeShapes Go.WideShapes Go.ChangeAt Go.RowKit

def contB (c : UInt8) : Bool := c.toNat / 64 == 2
def u8take : Nat → Nat → List UInt8 → Option Nat
 | 0, acc, _ => some acc
 | _ + 1, _, [] => none
 | n + 1, acc, c :: l => if contB c then u8take n (acc * 64 + c.toNat % 64) l else none
def u8head (c : Nat) : Option (Nat × Nat × Nat) :=
 if 194 ≤ c ∧ c < 224 then some (1, 128, c % 32) else if 224 ≤ c ∧ c < 240 then some (2, 2048, c % 16) else if 240 ≤ c ∧ c < 245 then some (3, 65536, c % 8) else none
def u8ok (least v : Nat) : Bool := decide (least ≤ v) && decide (v ≤ 1114111) && !(decide (55296 ≤ v) && decide (v < 57344))
def u8char : List UInt8 → Option (Nat × Nat)
 | [] => none
 | c :: l => if c.toNat < 128 then some (c.toNat, 1) else match u8head c.toNat with
  | none => none
  | some (n, least, first) => match u8take n first l with
   | none => none
   | some v => if u8ok least v then some (v, n + 1) else none
def utf8F : Nat → List UInt8 → Bool
 | 0, _ => true
 | f + 1, l => if l.isEmpty then true else match u8char l with
  | none => false
  | some (_, n) => utf8F f (l.drop n)
def utf8V (l : List UInt8) : Bool := utf8F l.length l

theorem u8take_len : ∀ (n acc : Nat) (l : List UInt8) (v : Nat), u8take n acc l = some v → n ≤ l.length
 | 0, _, _, _, _ => Nat.zero_le _
 | _ + 1, _, [], _, h => by simp [u8take] at h
 | n + 1, acc, c :: l, v, h => by
  unfold u8take at h
  split at h
  ·have := u8take_len n _ l v h; simp; omega
  ·cases h
theorem u8head_le {c k least first : Nat} (h : u8head c = some (k, least, first)) : (k = 1 ∧ least = 128 ∧ first < 32) ∨ (k = 2 ∧ least = 2048 ∧ first < 16) ∨ (k = 3 ∧ least = 65536 ∧ first < 8) := by
 unfold u8head at h
 by_cases h1 : 194 ≤ c ∧ c < 224
 ·rw [if_pos h1] at h; cases h; exact .inl ⟨rfl, rfl, by omega⟩
 ·rw [if_neg h1] at h
  by_cases h2 : 224 ≤ c ∧ c < 240
  ·rw [if_pos h2] at h; cases h; exact .inr (.inl ⟨rfl, rfl, by omega⟩)
  ·rw [if_neg h2] at h
   by_cases h3 : 240 ≤ c ∧ c < 245
   ·rw [if_pos h3] at h; cases h; exact .inr (.inr ⟨rfl, rfl, by omega⟩)
   ·rw [if_neg h3] at h; cases h
theorem u8char_cons (c : UInt8) (l : List UInt8) : u8char (c :: l) = if c.toNat < 128 then some (c.toNat, 1) else match u8head c.toNat with
  | none => none
  | some (n, least, first) => match u8take n first l with
   | none => none
   | some v => if u8ok least v then some (v, n + 1) else none := rfl
theorem u8char_size {l : List UInt8} {v n : Nat} (h : u8char l = some (v, n)) : 1 ≤ n ∧ n ≤ l.length ∧ n ≤ 4 := by
 cases l with
 | nil => simp [u8char] at h
 | cons c l =>
  by_cases h1 : c.toNat < 128
  ·rw [u8char_cons, if_pos h1] at h; cases h; exact ⟨by omega, by simp, by omega⟩
  ·rw [u8char_cons, if_neg h1] at h
   rcases hh : u8head c.toNat with _ | ⟨k, least, first⟩
   ·rw [hh] at h; cases h
   ·rw [hh] at h
    simp only at h
    have hk := u8head_le hh
    rcases ht : u8take k first l with _ | v'
    ·rw [ht] at h; cases h
    ·rw [ht] at h
     simp only at h
     have := u8take_len _ _ _ _ ht
     split at h
     ·cases h; exact ⟨by omega, by simp; omega, by omega⟩
     ·cases h
theorem utf8F_fuel : ∀ (f g : Nat) (l : List UInt8), l.length ≤ f → l.length ≤ g → utf8F f l = utf8F g l
 | 0, 0, _, _, _ => rfl
 | 0, g + 1, l, h, _ => by
  have : l = [] := List.eq_nil_of_length_eq_zero (by omega)
  subst this; rfl
 | f + 1, 0, l, _, h => by
  have : l = [] := List.eq_nil_of_length_eq_zero (by omega)
  subst this; rfl
 | f + 1, g + 1, l, hf, hg => by
  unfold utf8F
  split
  ·rfl
  ·split
   ·rfl
   ·rename_i v n h
    have := u8char_size h
    exact utf8F_fuel f g _ (by simp; omega) (by simp; omega)
theorem utf8V_nil : utf8V [] = true := rfl
theorem utf8V_none {l : List UInt8} (hne : l ≠ []) (h : u8char l = none) : utf8V l = false := by
 cases l with
 | nil => exact absurd rfl hne
 | cons c l => unfold utf8V; rw [List.length_cons, utf8F, h]; rfl
theorem utf8V_some {l : List UInt8} {v n : Nat} (h : u8char l = some (v, n)) : utf8V l = utf8V (l.drop n) := by
 have hs := u8char_size h
 cases l with
 | nil => simp [u8char] at h
 | cons c l =>
  conv => lhs; unfold utf8V
  rw [List.length_cons, utf8F, h]
  simp only [List.isEmpty_cons, Bool.false_eq_true, if_false]
  exact utf8F_fuel _ _ _ (by simp at hs ⊢; omega) (Nat.le_refl _)

theorem wraps_i64' : ∀ n : Int, 0 ≤ n → n < 2 ^ 63 → IntKind.i64.wrap n = n := fun n h0 h1 => IntWalk.i64_in n ⟨by omega, by omega⟩
theorem i64_or6 {x y : Int} (hx₀ : 0 ≤ x) (hx : x % 64 = 0) (hx₁ : x < 2147483648) (h₀ : 0 ≤ y) (h₁ : y < 64) : bits .or .i64 x y = x + y :=
 bits_join .i64 63 (by decide) wraps_i64' 6 x y hx₀ hx (by omega) h₀ h₁ (by omega)
theorem b_and31 (c : UInt8) : bits .and .u8 (c.toNat : Int) 31 = ((c.toNat % 32 : Nat) : Int) := bits_mask .u8 8 (by decide) wraps_u8 5 (by decide) c.toNat (byte_bd c).1 (byte_bd c).2
theorem b_and15 (c : UInt8) : bits .and .u8 (c.toNat : Int) 15 = ((c.toNat % 16 : Nat) : Int) := bits_mask .u8 8 (by decide) wraps_u8 4 (by decide) c.toNat (byte_bd c).1 (byte_bd c).2
theorem b_and7 (c : UInt8) : bits .and .u8 (c.toNat : Int) 7 = ((c.toNat % 8 : Nat) : Int) := bits_mask .u8 8 (by decide) wraps_u8 3 (by decide) c.toNat (byte_bd c).1 (byte_bd c).2
theorem b_and63 (c : UInt8) : bits .and .u8 (c.toNat : Int) 63 = ((c.toNat % 64 : Nat) : Int) := bits_mask .u8 8 (by decide) wraps_u8 6 (by decide) c.toNat (byte_bd c).1 (byte_bd c).2
theorem cont_all : ((List.range 256).all fun c => (bits .and .u8 (c : Int) 192 != 128) == !(c / 64 == 2)) = true := by kernel_rfl
theorem u8_cont (c : UInt8) : (bits .and .u8 (c.toNat : Int) 192 != 128) = !contB c := by
 have h := List.all_eq_true.1 cont_all c.toNat (List.mem_range.2 (by have := byte_bd c; omega))
 simpa [contB] using h
end Go.Proofs.YtgdnpnipahegaaaGreatDoor

namespace Go.Proofs.YtgdnpnipahegaaaGreatDoor
open Go.ChangeShapes Go.WideShapes Go.ChangeAt Go.RowKit Go.Lib

def dec (l : List UInt8) : Nat × Nat := decodeN l.length (l.getD 0 0).toNat (l.getD 1 0).toNat (l.getD 2 0).toNat (l.getD 3 0).toNat
theorem contB_iff (c : UInt8) : contB c = true ↔ c.toNat / 64 = 2 := by simp [contB]

theorem take_nil (n acc : Nat) : u8take (n + 1) acc [] = none := rfl
theorem take_cons (n acc : Nat) (c : UInt8) (l : List UInt8) : u8take (n + 1) acc (c :: l) = if c.toNat / 64 = 2 then u8take n (acc * 64 + c.toNat % 64) l else none := by
 rw [u8take]
 by_cases h : c.toNat / 64 = 2
 ·rw [if_pos h, if_pos ((contB_iff c).2 h)]
 ·rw [if_neg h, if_neg (fun h' => h ((contB_iff c).1 h'))]
theorem take_zero (acc : Nat) (l : List UInt8) : u8take 0 acc l = some acc := by cases l <;> rfl
theorem u8ok_pos {least v : Nat} (h : least ≤ v ∧ v ≤ 1114111 ∧ ¬ (55296 ≤ v ∧ v < 57344)) : u8ok least v = true := by
 unfold u8ok; simp; omega
theorem u8ok_neg {least v : Nat} (h : ¬ (least ≤ v ∧ v ≤ 1114111 ∧ ¬ (55296 ≤ v ∧ v < 57344))) : u8ok least v = false := by
 rw [Bool.eq_false_iff]; intro h'; unfold u8ok at h'; simp at h'; omega
def chr (l : List UInt8) : Nat × Nat := match u8char l with
 | some p => p
 | none => (65533, 1)
theorem chr_none {c : UInt8} {l : List UInt8} (h1 : ¬ c.toNat < 128) (h : ∀ n least first, u8head c.toNat = some (n, least, first) → ∀ v, u8take n first l = some v → u8ok least v = false) : chr (c :: l) = (65533, 1) := by
 unfold chr
 rw [u8char_cons, if_neg h1]
 rcases hh : u8head c.toNat with _ | ⟨n, least, first⟩
 ·rfl
 ·simp only
  rcases ht : u8take n first l with _ | v
  ·rfl
  ·simp only
   rw [h _ _ _ hh v ht]; rfl
theorem chr_some {c : UInt8} {l : List UInt8} {n least first v : Nat} (h1 : ¬ c.toNat < 128) (hh : u8head c.toNat = some (n, least, first)) (ht : u8take n first l = some v) (ho : u8ok least v = true) : chr (c :: l) = (v, n + 1) := by
 unfold chr
 rw [u8char_cons, if_neg h1, hh]
 simp only
 rw [ht]
 simp only
 rw [if_pos ho]
theorem dec_bad {n b0 b1 b2 b3 : Nat} (h0 : ¬ b0 < 128) (h1 : ¬ (b0 / 32 = 6 ∧ (1 < n ∧ b1 / 64 = 2) ∧ 128 ≤ b0 % 32 * 64 + b1 % 64))
  (h2 : ¬ (b0 / 16 = 14 ∧ (1 < n ∧ b1 / 64 = 2) ∧ (2 < n ∧ b2 / 64 = 2) ∧ 2048 ≤ b0 % 16 * 4096 + b1 % 64 * 64 + b2 % 64 ∧ (b0 % 16 * 4096 + b1 % 64 * 64 + b2 % 64 < 55296 ∨ (57344 ≤ b0 % 16 * 4096 + b1 % 64 * 64 + b2 % 64 ∧ b0 % 16 * 4096 + b1 % 64 * 64 + b2 % 64 ≤ 1114111))))
  (h3 : ¬ (b0 / 8 = 30 ∧ (1 < n ∧ b1 / 64 = 2) ∧ (2 < n ∧ b2 / 64 = 2) ∧ (3 < n ∧ b3 / 64 = 2) ∧ 65536 ≤ b0 % 8 * 262144 + b1 % 64 * 4096 + b2 % 64 * 64 + b3 % 64 ∧ (b0 % 8 * 262144 + b1 % 64 * 4096 + b2 % 64 * 64 + b3 % 64 < 55296 ∨ (57344 ≤ b0 % 8 * 262144 + b1 % 64 * 4096 + b2 % 64 * 64 + b3 % 64 ∧ b0 % 8 * 262144 + b1 % 64 * 4096 + b2 % 64 * 64 + b3 % 64 ≤ 1114111)))) :
  decodeN n b0 b1 b2 b3 = (65533, 1) := by
 unfold decodeN
 rw [if_neg h0]
 split
 ·rename_i h
  rw [if_neg (fun h' => h1 ⟨h.1, h.2, h'⟩)]
 ·split
  ·rename_i h
   rw [if_neg (fun h' => h2 ⟨h.1, h.2.1, h.2.2, h'⟩)]
  ·split
   ·rename_i h
    rw [if_neg (fun h' => h3 ⟨h.1, h.2.1, h.2.2.1, h.2.2.2, h'⟩)]
   ·rfl
theorem u8take_two {n a : Nat} {l : List UInt8} {v : Nat} (h : u8take (n + 1) a l = some v) : ∃ d r, l = d :: r ∧ d.toNat / 64 = 2 ∧ u8take n (a * 64 + d.toNat % 64) r = some v := by
 cases l with
 | nil => rw [take_nil] at h; cases h
 | cons d r =>
  rw [take_cons] at h
  by_cases hd : d.toNat / 64 = 2
  ·rw [if_pos hd] at h; exact ⟨d, r, rfl, hd, h⟩
  ·rw [if_neg hd] at h; cases h
theorem getD0 (c : UInt8) (l : List UInt8) : (c :: l).getD 0 0 = c := rfl
theorem getDs (c : UInt8) (l : List UInt8) (k : Nat) : (c :: l).getD (k + 1) 0 = l.getD k 0 := rfl

theorem u8char_inv {c : UInt8} {l : List UInt8} {p : Nat × Nat} (h1 : ¬ c.toNat < 128) (h : u8char (c :: l) = some p) : ∃ n least first v, u8head c.toNat = some (n, least, first) ∧ u8take n first l = some v ∧ u8ok least v = true ∧ p = (v, n + 1) := by
 rw [u8char_cons, if_neg h1] at h
 rcases hh : u8head c.toNat with _ | ⟨n, least, first⟩
 ·rw [hh] at h; cases h
 ·rw [hh] at h
  simp only at h
  rcases ht : u8take n first l with _ | v
  ·rw [ht] at h; cases h
  ·rw [ht] at h
   simp only at h
   by_cases ho : u8ok least v = true
   ·rw [if_pos ho] at h
    injection h with h
    exact ⟨n, least, first, v, rfl, ht, ho, h.symm⟩
   ·rw [if_neg ho] at h; cases h
theorem u8ok_inv {least v : Nat} (h : u8ok least v = true) : least ≤ v ∧ v ≤ 1114111 ∧ ¬ (55296 ≤ v ∧ v < 57344) := by
 unfold u8ok at h; simp at h; omega
theorem u8head_inv {b n least first : Nat} (h : u8head b = some (n, least, first)) : (n = 1 ∧ least = 128 ∧ first = b % 32 ∧ 194 ≤ b ∧ b < 224) ∨ (n = 2 ∧ least = 2048 ∧ first = b % 16 ∧ 224 ≤ b ∧ b < 240) ∨ (n = 3 ∧ least = 65536 ∧ first = b % 8 ∧ 240 ≤ b ∧ b < 245) := by
 unfold u8head at h
 by_cases a : 194 ≤ b ∧ b < 224
 ·rw [if_pos a] at h; injection h with h; simp only [Prod.mk.injEq] at h; exact .inl ⟨h.1.symm, h.2.1.symm, h.2.2.symm, a⟩
 ·rw [if_neg a] at h
  by_cases a2 : 224 ≤ b ∧ b < 240
  ·rw [if_pos a2] at h; injection h with h; simp only [Prod.mk.injEq] at h; exact .inr (.inl ⟨h.1.symm, h.2.1.symm, h.2.2.symm, a2⟩)
  ·rw [if_neg a2] at h
   by_cases a3 : 240 ≤ b ∧ b < 245
   ·rw [if_pos a3] at h; injection h with h; simp only [Prod.mk.injEq] at h; exact .inr (.inr ⟨h.1.symm, h.2.1.symm, h.2.2.symm, a3⟩)
   ·rw [if_neg a3] at h; cases h
theorem getD_ge (l : List UInt8) : (1 < l.length → ∃ a b r, l = a :: b :: r) ∧ (2 < l.length → ∃ a b d r, l = a :: b :: d :: r) ∧ (3 < l.length → ∃ a b d e r, l = a :: b :: d :: e :: r) := by
 refine ⟨fun h => ?_, fun h => ?_, fun h => ?_⟩
 ·match l, h with
  | a :: b :: r, _ => exact ⟨a, b, r, rfl⟩
 ·match l, h with
  | a :: b :: d :: r, _ => exact ⟨a, b, d, r, rfl⟩
 ·match l, h with
  | a :: b :: d :: e :: r, _ => exact ⟨a, b, d, e, r, rfl⟩
theorem u8head1 {b : Nat} (h : 194 ≤ b ∧ b < 224) : u8head b = some (1, 128, b % 32) := by unfold u8head; rw [if_pos h]
theorem u8head2 {b : Nat} (h : 224 ≤ b ∧ b < 240) : u8head b = some (2, 2048, b % 16) := by unfold u8head; rw [if_neg (by omega), if_pos h]
theorem u8head3 {b : Nat} (h : 240 ≤ b ∧ b < 245) : u8head b = some (3, 65536, b % 8) := by unfold u8head; rw [if_neg (by omega), if_neg (by omega), if_pos h]

theorem dec_eq (l : List UInt8) (hne : l ≠ []) : dec l = chr l := by
 obtain ⟨c, l, rfl⟩ := List.exists_cons_of_ne_nil hne
 have bc := c.toNat_lt
 by_cases h1 : c.toNat < 128
 ·unfold dec decodeN chr
  rw [u8char_cons, if_pos h1, getD0, if_pos h1]
 ·rcases hu : u8char (c :: l) with _ | p
  ·have hc : chr (c :: l) = (65533, 1) := by unfold chr; rw [hu]
   rw [hc]
   unfold dec
   rw [getD0]
   have hgd := getD_ge (c :: l)
   refine dec_bad h1 ?_ ?_ ?_
   ·rintro ⟨a1, ⟨a2, a3⟩, a4⟩
    obtain ⟨c', d, r, e⟩ := hgd.1 a2
    injection e with e1 e2
    subst e1 e2
    rw [getDs, getD0] at a3 a4
    have hh := u8head1 (b := c.toNat) (by omega)
    have ht : u8take 1 (c.toNat % 32) (d :: r) = some (c.toNat % 32 * 64 + d.toNat % 64) := by rw [take_cons, if_pos a3, take_zero]
    have := chr_some h1 hh ht (u8ok_pos (by omega))
    rw [hc] at this; simp at this
   ·rintro ⟨a1, ⟨a2, a3⟩, ⟨a4, a5⟩, a6, a7⟩
    obtain ⟨c', d, d2, r, e⟩ := hgd.2.1 a4
    injection e with e1 e2
    subst e1 e2
    rw [getDs, getD0] at a3
    rw [getDs, getDs, getD0] at a5
    rw [getDs, getD0, getDs, getDs, getD0] at a6 a7
    have hh := u8head2 (b := c.toNat) (by omega)
    have ht : u8take 2 (c.toNat % 16) (d :: d2 :: r) = some ((c.toNat % 16 * 64 + d.toNat % 64) * 64 + d2.toNat % 64) := by rw [take_cons, if_pos a3, take_cons, if_pos a5, take_zero]
    have := chr_some h1 hh ht (u8ok_pos (by omega))
    rw [hc] at this; simp at this
   ·rintro ⟨a1, ⟨a2, a3⟩, ⟨a4, a5⟩, ⟨a6, a7⟩, a8, a9⟩
    obtain ⟨c', d, d2, d3, r, e⟩ := hgd.2.2 a6
    injection e with e1 e2
    subst e1 e2
    rw [getDs, getD0] at a3
    rw [getDs, getDs, getD0] at a5
    rw [getDs, getDs, getDs, getD0] at a7
    rw [getDs, getD0, getDs, getDs, getD0, getDs, getDs, getDs, getD0] at a8 a9
    have hh := u8head3 (b := c.toNat) (by omega)
    have ht : u8take 3 (c.toNat % 8) (d :: d2 :: d3 :: r) = some (((c.toNat % 8 * 64 + d.toNat % 64) * 64 + d2.toNat % 64) * 64 + d3.toNat % 64) := by rw [take_cons, if_pos a3, take_cons, if_pos a5, take_cons, if_pos a7, take_zero]
    have := chr_some h1 hh ht (u8ok_pos (by omega))
    rw [hc] at this; simp at this
  ·obtain ⟨n, least, first, v, hh, ht, ho, rfl⟩ := u8char_inv h1 hu
   have hc : chr (c :: l) = (v, n + 1) := by unfold chr; rw [hu]
   rw [hc]
   have hov := u8ok_inv ho
   unfold dec
   rw [getD0]
   rcases u8head_inv hh with ⟨rfl, rfl, rfl, a⟩ | ⟨rfl, rfl, rfl, a⟩ | ⟨rfl, rfl, rfl, a⟩
   ·obtain ⟨d, r, rfl, hd, ht1⟩ := u8take_two ht
    rw [take_zero] at ht1
    injection ht1 with ht1
    have bd := d.toNat_lt
    rw [getDs, getD0]
    unfold decodeN
    rw [if_neg h1, if_pos ⟨by omega, by simp, hd⟩, if_pos (by omega), ht1]
   ·obtain ⟨d, r, rfl, hd, ht1⟩ := u8take_two ht
    obtain ⟨d2, r2, rfl, hd2, ht2⟩ := u8take_two ht1
    rw [take_zero] at ht2
    injection ht2 with ht2
    rw [getDs, getD0, getDs, getDs, getD0]
    unfold decodeN
    rw [if_neg h1, if_neg (by omega), if_pos ⟨by omega, ⟨by simp, hd⟩, by simp, hd2⟩, if_pos (by omega)]
    congr 1; omega
   ·obtain ⟨d, r, rfl, hd, ht1⟩ := u8take_two ht
    obtain ⟨d2, r2, rfl, hd2, ht2⟩ := u8take_two ht1
    obtain ⟨d3, r3, rfl, hd3, ht3⟩ := u8take_two ht2
    rw [take_zero] at ht3
    injection ht3 with ht3
    rw [getDs, getD0, getDs, getDs, getD0, getDs, getDs, getDs, getD0]
    unfold decodeN
    rw [if_neg h1, if_neg (by omega), if_neg (by omega), if_pos ⟨by omega, ⟨by simp, hd⟩, ⟨by simp, hd2⟩, by simp, hd3⟩, if_pos (by omega)]
    congr 1; omega

def decV (l : List UInt8) : Value := .tuple #[.int .i32 (chr l).1, .int .i64 (chr l).2]
set_option maxHeartbeats 4000000 in
set_option maxRecDepth 100000 in
theorem decodeRuneSlow_any (v : Value) (l : List UInt8) (g : Nat) (w : World) (hv : View w g v l) (hne : l ≠ []) (hm : l.length ≤ 100000000) (hT : Lib.Utf8Tabs 4 5 w) :
  Calls Tryz.prog 81 #[v] w fun e w' => e = .returned (decV l) ∧ Below w.heap.size w w' := by
 have hlt := hv.lt hne
 obtain ⟨ao, cap, rfl, hlc, hcm, hn0, off, hao, hcell⟩ := hv
 obtain rfl := hao hne
 have hz0 : (0 : Int) < (l.length : Int) := by have := List.length_pos_iff.2 hne; omega
 have hz0' : ¬ ((l.length : Int) < 1) := by omega
 have hc : ∀ k, k < l.length → w.cell? ⟨g, off + k, none⟩ = some (.int .u8 ((l.getD k 0).toNat : Int)) := fun k hk => by
  rw [hcell k hk, List.getD_eq_getElem?_getD, List.getElem?_eq_getElem hk]; rfl
 have hdv : decV l = .tuple #[.int .i32 (decodeN l.length (l.getD 0 0).toNat (l.getD 1 0).toNat (l.getD 2 0).toNat (l.getD 3 0).toNat).1, .int .i64 (decodeN l.length (l.getD 0 0).toNat (l.getD 1 0).toNat (l.getD 2 0).toNat (l.getD 3 0).toNat).2] := by
  unfold decV; rw [← dec_eq l hne]; rfl
 rw [hdv]
 clear hdv hcell hao hn0
 have c0 := hc 0 (by omega)
 have c1 := hc 1
 have c2 := hc 2
 have c3 := hc 3
 rw [Nat.add_zero] at c0
 generalize l.getD 0 0 = x0 at *
 generalize l.getD 1 0 = x1 at *
 generalize l.getD 2 0 = x2 at *
 generalize l.getD 3 0 = x3 at *
 have l0 := x0.toNat_lt; have l1 := x1.toNat_lt; have l2 := x2.toNat_lt; have l3 := x3.toNat_lt
 have hc0 := hT.1 x0.toNat (by omega)
 have hres : firstT x0.toNat < 240 → decodeN l.length x0.toNat x1.toNat x2.toNat x3.toNat = slowN l.length x0.toNat x1.toNat x2.toNat x3.toNat (firstT x0.toNat % 8) (accLo (firstT x0.toNat / 16)) (accHi (firstT x0.toNat / 16)) :=
  fun h => (Lib.slow_eq _ _ _ _ _ (by omega) (by omega) (by omega) (by omega) h).symm
 have hlt1 : 4 < w.heap.size := World.block_lt_of_cell? w _ hc0
 clear hc
 rcases Lib.firstT_cases x0.toNat with hX | hX | hX | hX | hX | hX | hX | hX | hX
 ·rw [Lib.ascii_eq _ _ _ _ _ hX]
  rw [hX] at hc0
  clear hres hT hX
  go_enter Tryz.func81, Tryz.ntmps81
  go_wp2
  rw [Utf8W.mask240, Utf8W.keep_byte ⟨x0.toNat, l0⟩]
  go_ret2
  exact ⟨rfl, Below.refl _ _⟩
 ·rw [Lib.bad_eq _ _ _ _ _ (by omega) hX]
  rw [hX] at hc0
  clear hres hT hX
  go_enter Tryz.func81, Tryz.ntmps81
  go_wp2
  rw [Utf8W.mask241, Utf8W.drop_byte ⟨x0.toNat, l0⟩]
  go_ret2
  exact ⟨rfl, Below.refl _ _⟩
 all_goals replace hres := hres (by omega)
 ·rw [hX] at hc0 hres
  have ha0 := (hT.2 0 (by omega)).1
  have ha1 := (hT.2 0 (by omega)).2
  simp only [accLo, accHi, Nat.reduceMul, Nat.reduceAdd, Nat.reduceEqDiff, if_true, if_false, Nat.reduceMod, Nat.reduceDiv] at ha0 ha1 hres
  rw [hres]
  clear hres hT hX
  by_cases hn : l.length < 2
  ·have hnz : (l.length : Int) < 2 := by omega
   clear c1 c2 c3
   go_enter Tryz.func81, Tryz.ntmps81
   go_wp2
   all_goals (go_ret2; refine ⟨?_, (Below.refl _ _).alloc (Nat.le_refl _) _⟩; utf8_leaf)
  ·have hnz : ¬ (l.length : Int) < 2 := by omega
   have hz1 : (1 : Int) < (l.length : Int) := by omega
   replace c1 := c1 (by omega)
   clear c2 c3
   go_enter Tryz.func81, Tryz.ntmps81
   go_wp2
   all_goals (go_ret2; refine ⟨?_, (Below.refl _ _).alloc (Nat.le_refl _) _⟩; utf8_leaf)
 ·rw [hX] at hc0 hres
  have ha0 := (hT.2 1 (by omega)).1
  have ha1 := (hT.2 1 (by omega)).2
  simp only [accLo, accHi, Nat.reduceMul, Nat.reduceAdd, Nat.reduceEqDiff, if_true, if_false, Nat.reduceMod, Nat.reduceDiv] at ha0 ha1 hres
  rw [hres]
  clear hres hT hX
  by_cases hn : l.length < 3
  ·have hnz : (l.length : Int) < 3 := by omega
   clear c1 c2 c3
   go_enter Tryz.func81, Tryz.ntmps81
   go_wp2
   all_goals (go_ret2; refine ⟨?_, (Below.refl _ _).alloc (Nat.le_refl _) _⟩; utf8_leaf)
  ·have hnz : ¬ (l.length : Int) < 3 := by omega
   have hz1 : (1 : Int) < (l.length : Int) := by omega
   replace c1 := c1 (by omega)
   have hz2 : (2 : Int) < (l.length : Int) := by omega
   replace c2 := c2 (by omega)
   clear c3
   go_enter Tryz.func81, Tryz.ntmps81
   go_wp2
   all_goals (go_ret2; refine ⟨?_, (Below.refl _ _).alloc (Nat.le_refl _) _⟩; utf8_leaf)
 ·rw [hX] at hc0 hres
  have ha0 := (hT.2 0 (by omega)).1
  have ha1 := (hT.2 0 (by omega)).2
  simp only [accLo, accHi, Nat.reduceMul, Nat.reduceAdd, Nat.reduceEqDiff, if_true, if_false, Nat.reduceMod, Nat.reduceDiv] at ha0 ha1 hres
  rw [hres]
  clear hres hT hX
  by_cases hn : l.length < 3
  ·have hnz : (l.length : Int) < 3 := by omega
   clear c1 c2 c3
   go_enter Tryz.func81, Tryz.ntmps81
   go_wp2
   all_goals (go_ret2; refine ⟨?_, (Below.refl _ _).alloc (Nat.le_refl _) _⟩; utf8_leaf)
  ·have hnz : ¬ (l.length : Int) < 3 := by omega
   have hz1 : (1 : Int) < (l.length : Int) := by omega
   replace c1 := c1 (by omega)
   have hz2 : (2 : Int) < (l.length : Int) := by omega
   replace c2 := c2 (by omega)
   clear c3
   go_enter Tryz.func81, Tryz.ntmps81
   go_wp2
   all_goals (go_ret2; refine ⟨?_, (Below.refl _ _).alloc (Nat.le_refl _) _⟩; utf8_leaf)
 ·rw [hX] at hc0 hres
  have ha0 := (hT.2 2 (by omega)).1
  have ha1 := (hT.2 2 (by omega)).2
  simp only [accLo, accHi, Nat.reduceMul, Nat.reduceAdd, Nat.reduceEqDiff, if_true, if_false, Nat.reduceMod, Nat.reduceDiv] at ha0 ha1 hres
  rw [hres]
  clear hres hT hX
  by_cases hn : l.length < 3
  ·have hnz : (l.length : Int) < 3 := by omega
   clear c1 c2 c3
   go_enter Tryz.func81, Tryz.ntmps81
   go_wp2
   all_goals (go_ret2; refine ⟨?_, (Below.refl _ _).alloc (Nat.le_refl _) _⟩; utf8_leaf)
  ·have hnz : ¬ (l.length : Int) < 3 := by omega
   have hz1 : (1 : Int) < (l.length : Int) := by omega
   replace c1 := c1 (by omega)
   have hz2 : (2 : Int) < (l.length : Int) := by omega
   replace c2 := c2 (by omega)
   clear c3
   go_enter Tryz.func81, Tryz.ntmps81
   go_wp2
   all_goals (go_ret2; refine ⟨?_, (Below.refl _ _).alloc (Nat.le_refl _) _⟩; utf8_leaf)
 ·rw [hX] at hc0 hres
  have ha0 := (hT.2 3 (by omega)).1
  have ha1 := (hT.2 3 (by omega)).2
  simp only [accLo, accHi, Nat.reduceMul, Nat.reduceAdd, Nat.reduceEqDiff, if_true, if_false, Nat.reduceMod, Nat.reduceDiv] at ha0 ha1 hres
  rw [hres]
  clear hres hT hX
  by_cases hn : l.length < 4
  ·have hnz : (l.length : Int) < 4 := by omega
   clear c1 c2 c3
   go_enter Tryz.func81, Tryz.ntmps81
   go_wp2
   all_goals (go_ret2; refine ⟨?_, (Below.refl _ _).alloc (Nat.le_refl _) _⟩; utf8_leaf)
  ·have hnz : ¬ (l.length : Int) < 4 := by omega
   have hz1 : (1 : Int) < (l.length : Int) := by omega
   replace c1 := c1 (by omega)
   have hz2 : (2 : Int) < (l.length : Int) := by omega
   replace c2 := c2 (by omega)
   have hz3 : (3 : Int) < (l.length : Int) := by omega
   replace c3 := c3 (by omega)
   go_enter Tryz.func81, Tryz.ntmps81
   go_wp2
   all_goals (go_ret2; refine ⟨?_, (Below.refl _ _).alloc (Nat.le_refl _) _⟩; utf8_leaf)
 ·rw [hX] at hc0 hres
  have ha0 := (hT.2 0 (by omega)).1
  have ha1 := (hT.2 0 (by omega)).2
  simp only [accLo, accHi, Nat.reduceMul, Nat.reduceAdd, Nat.reduceEqDiff, if_true, if_false, Nat.reduceMod, Nat.reduceDiv] at ha0 ha1 hres
  rw [hres]
  clear hres hT hX
  by_cases hn : l.length < 4
  ·have hnz : (l.length : Int) < 4 := by omega
   clear c1 c2 c3
   go_enter Tryz.func81, Tryz.ntmps81
   go_wp2
   all_goals (go_ret2; refine ⟨?_, (Below.refl _ _).alloc (Nat.le_refl _) _⟩; utf8_leaf)
  ·have hnz : ¬ (l.length : Int) < 4 := by omega
   have hz1 : (1 : Int) < (l.length : Int) := by omega
   replace c1 := c1 (by omega)
   have hz2 : (2 : Int) < (l.length : Int) := by omega
   replace c2 := c2 (by omega)
   have hz3 : (3 : Int) < (l.length : Int) := by omega
   replace c3 := c3 (by omega)
   go_enter Tryz.func81, Tryz.ntmps81
   go_wp2
   all_goals (go_ret2; refine ⟨?_, (Below.refl _ _).alloc (Nat.le_refl _) _⟩; utf8_leaf)
 ·rw [hX] at hc0 hres
  have ha0 := (hT.2 4 (by omega)).1
  have ha1 := (hT.2 4 (by omega)).2
  simp only [accLo, accHi, Nat.reduceMul, Nat.reduceAdd, Nat.reduceEqDiff, if_true, if_false, Nat.reduceMod, Nat.reduceDiv] at ha0 ha1 hres
  rw [hres]
  clear hres hT hX
  by_cases hn : l.length < 4
  ·have hnz : (l.length : Int) < 4 := by omega
   clear c1 c2 c3
   go_enter Tryz.func81, Tryz.ntmps81
   go_wp2
   all_goals (go_ret2; refine ⟨?_, (Below.refl _ _).alloc (Nat.le_refl _) _⟩; utf8_leaf)
  ·have hnz : ¬ (l.length : Int) < 4 := by omega
   have hz1 : (1 : Int) < (l.length : Int) := by omega
   replace c1 := c1 (by omega)
   have hz2 : (2 : Int) < (l.length : Int) := by omega
   replace c2 := c2 (by omega)
   have hz3 : (3 : Int) < (l.length : Int) := by omega
   replace c3 := c3 (by omega)
   go_enter Tryz.func81, Tryz.ntmps81
   go_wp2
   all_goals (go_ret2; refine ⟨?_, (Below.refl _ _).alloc (Nat.le_refl _) _⟩; utf8_leaf)
end Go.Proofs.YtgdnpnipahegaaaGreatDoor

namespace Go.Proofs.YtgdnpnipahegaaaGreatDoor
open Go.ChangeShapes Go.WideShapes Go.ChangeAt Go.RowKit Go.Lib

theorem decV_ascii (c : UInt8) (l : List UInt8) (h : c.toNat < 128) : decV (c :: l) = .tuple #[.int .i32 (c.toNat : Int), .int .i64 1] := by
 unfold decV chr; rw [u8char_cons, if_pos h]; rfl
set_option maxRecDepth 100000 in
set_option maxHeartbeats 1000000 in
theorem decodeRune_any (v : Value) (l : List UInt8) (g : Nat) (w : World) (hv : View w g v l) (hne : l ≠ []) (hm : l.length ≤ 100000000) (hT : Lib.Utf8Tabs 4 5 w) :
  Calls Tryz.prog 71 #[v] w fun e w' => e = .returned (decV l) ∧ Below w.heap.size w w' := by
 have HS := hid (decodeRuneSlow_any v l g w hv hne hm hT)
 obtain ⟨ao, cap, rfl, hlc, hcm, hn0, off, hao, hcell⟩ := hv
 obtain rfl := hao hne
 obtain ⟨c, l, rfl⟩ := List.exists_cons_of_ne_nil hne
 have c0 : w.cell? ⟨g, off, none⟩ = some (.int .u8 (c.toNat : Int)) := hcell 0 (by simp)
 have bc := byte_bd c
 have hz0 : (0 : Int) < ((c :: l).length : Int) := by simp <;> omega
 clear hcell hao hn0 hne hT
 by_cases h128 : c.toNat < 128
 ·have HF := hid (decV_ascii c l h128)
  have hlt : (c.toNat : Int) < 128 := by omega
  generalize (c :: l).length = n at *
  go_enter Tryz.func71, Tryz.ntmps71
  go_wp2_with fail
  go_loop [8] (fun i => i = .int .i64 0) (fun _ => 0)
  case atStart => rfl
  case round =>
   subst hrel
   go_wp2_with fail
   go_ret2
   exact ⟨by rw [HF.out]; try rfl, Below.refl _ _⟩
 ·have hlt : ¬ (c.toNat : Int) < 128 := by omega
  unfold decV at HS ⊢
  generalize (chr (c :: l)).1 = r1 at *
  generalize (chr (c :: l)).2 = r2 at *
  generalize (c :: l).length = n at *
  clear h128
  go_enter Tryz.func71, Tryz.ntmps71
  go_wp2_with fail
  go_loop [8] (fun i => i = .int .i64 0) (fun _ => 0)
  case atStart => rfl
  case round =>
   subst hrel
   go_wp2_with (first | (go_at_call 81; refine (Calls.mono HS.out ?_); rintro e w1 ⟨rfl, hb1⟩) | fail)
   go_ret2
   exact ⟨rfl, hb1⟩

theorem iterPos_of {w : World} {k : Nat} {s : ByteArray} {p : Nat} (h : w.heap[k]? = some (.stringIter s p)) : w.iterPos k = p := by simp [World.iterPos, h]
theorem get!_list (l : List UInt8) (k : Nat) : (⟨l.toArray⟩ : ByteArray).get! k = l.getD k 0 := by
 show (l.toArray)[k]! = _
 simp [List.getD_eq_getElem?_getD, getElem!_def]
 cases l[k]? <;> rfl
theorem getD_drop (l : List UInt8) (k j : Nat) : (l.drop k).getD j 0 = l.getD (k + j) 0 := by
 simp [List.getD_eq_getElem?_getD, List.getElem?_drop]
theorem decode_chr (l : List UInt8) (k : Nat) (h : k < l.length) : Utf8.decode ⟨l.toArray⟩ k = chr (l.drop k) := by
 rw [← dec_eq _ (by intro e; have := congrArg List.length e; simp at this; omega), Lib.decode_at, get!_list, get!_list, get!_list, get!_list]
 unfold dec
 rw [getD_drop, getD_drop, getD_drop, getD_drop, List.length_drop, size_mk]
 simp only [Nat.add_zero]
theorem chr_pos {l : List UInt8} (h : l ≠ []) : 1 ≤ (chr l).2 ∧ (chr l).2 ≤ l.length := by
 have hl := List.length_pos_iff.2 h
 unfold chr
 rcases hu : u8char l with _ | ⟨c, n⟩
 ·simp only; omega
 ·have := u8char_size hu; simp only; omega

end Go.Proofs.YtgdnpnipahegaaaGreatDoor

namespace Go.Proofs.YtgdnpnipahegaaaGreatDoor
open Go.ChangeShapes Go.WideShapes Go.ChangeAt Go.RowKit Go.Lib

theorem info5u : (Tryz.prog.info? 5).map (fun i => (i.zero, i.size, i.bytes)) = some (some (.int .u8 0), 1, 1) := by kernel_rfl
def lowN (n : Nat) : Nat := if n / 32 % 2 = 1 then n else n + 32
theorem low_all : ((List.range 256).all fun n => decide (bits .or .u8 (n : Int) 32 = (lowN n : Int))) = true := by kernel_rfl
theorem b_or32 (c : UInt8) : bits .or .u8 (c.toNat : Int) 32 = (lowN c.toNat : Int) := by
 have h := List.all_eq_true.1 low_all c.toNat (List.mem_range.2 (by have := byte_bd c; omega))
 exact of_decide_eq_true h
def hexV (n : Nat) : Nat := if 48 ≤ n ∧ n ≤ 57 then n - 48 else if 97 ≤ lowN n ∧ lowN n ≤ 122 then min 16 (lowN n - 87) else 16
set_option maxRecDepth 100000 in
set_option maxHeartbeats 1000000 in
theorem lower_any (c : UInt8) (w : World) : Calls Tryz.prog 90 #[.int .u8 (c.toNat : Int)] w fun e w' => e = .returned (.int .u8 (lowN c.toNat : Int)) ∧ w = w' := by
 have HB := hid (b_or32 c)
 go_enter Tryz.func90, Tryz.ntmps90
 go_wp2
 go_ret
 exact ⟨by first | rfl | (rw [HB.out]; try rfl), rfl⟩

set_option maxRecDepth 100000 in
set_option maxHeartbeats 2000000 in
theorem clone_any (s : ByteArray) (w : World) (hlim : s.size ≤ 281474976710656) :
  Calls Tryz.prog 92 #[.string s] w fun e w' => e = .returned (.string s) ∧ Below w.heap.size w w' := by
 by_cases h0 : s.size = 0
 ·have hs : s = ⟨#[]⟩ := by
   apply ByteArray.ext
   exact Array.eq_empty_of_size_eq_zero h0
  subst hs
  go_enter Tryz.func92, Tryz.ntmps92
  go_wp2
  go_ret
  exact ⟨rfl, Below.refl _ _⟩
 ·have hi5 : ∃ i0, Tryz.prog.info? 5 = some i0 ∧ i0.zero = some (.int .u8 0) ∧ i0.size = 1 ∧ i0.bytes = 1 := by
   have h := info5u
   cases hq : Tryz.prog.info? 5 with
   | none => rw [hq] at h; simp at h
   | some i => rw [hq] at h; simp only [Option.map_some, Option.some.injEq, Prod.mk.injEq] at h; exact ⟨i, rfl, h⟩
  obtain ⟨i0, hi, hz0, hz1, hz2⟩ := hi5
  have hinfo : (Tryz.prog.info? 5).map (·.size) = some 1 := by rw [hi]; simp [hz1]
  have hco : Tryz.prog.cellsOf 5 = 1 := by simp [Program.cellsOf, hi, hz1]
  obtain ⟨M, hM⟩ : ∃ M, M = madeCells (Value.int .u8 0).cells (((s.size : Nat) : Int).toNat * i0.size) := ⟨_, rfl⟩
  have hMs : M.size = s.size := by rw [hM, size_madeCells, hz1]; simp
  have hmk : ∀ W : World, (Instr.makeSlice 22 (.int .i64 (s.size : Int)) (.int .i64 (s.size : Int))).run Tryz.prog W = .ok (.slice (some ⟨W.heap.size, 0, none⟩) s.size s.size) (W.alloc (.cells M 5)) := fun W => by
   have h := run_make (P := Tryz.prog) W 22 5 i0 (.int .u8 0) Tryz.underlying22 hi hz0 .i64 .i64 (s.size : Int) (s.size : Int) (by omega) (by omega) (by rw [hz2]; omega) (by omega)
   rw [← hM] at h
   simpa using h
  clear hM
  have hcp := Lib.run_copy_row_string (P := Tryz.prog) (w.alloc (.cells M 5)) 22 9 3 5 w.heap.size 0 s.size s.size s M 5 Tryz.underlying22 hinfo (heap_alloc_new w _) (Nat.le_refl _) (by omega)
  obtain ⟨Y, hY⟩ : ∃ Y, Y = (M.toList.take 0 ++ Lib.byteCells s.data.toList ++ M.toList.drop (0 + s.size)).toArray := ⟨_, rfl⟩
  rw [← hY] at hcp
  have hYl : Y.toList = Lib.byteCells s.data.toList := by
   rw [hY, List.toList_toArray, List.take_zero, List.nil_append, List.drop_of_length_le (by rw [Array.length_toList]; omega), List.append_nil]
  have hYs : Y.size = s.size := by rw [← Array.length_toList, hYl, Lib.byteCells_length, ← Lib.size_eq]
  have hgY : ((w.alloc (.cells M 5)).setRow w.heap.size Y).heap[w.heap.size]? = some (.cells Y 5 (0, 0)) := setRow_heap _ _ M _ 5 (0, 0) (heap_alloc_new w _)
  have hne : s.data.toList ≠ [] := fun e => h0 (by rw [Lib.size_eq, e]; try rfl)
  have hUS := Lib.run_unsafeString_row (P := Tryz.prog) ((w.alloc (.cells M 5)).setRow w.heap.size Y) 137 3 9 5 Tryz.underlying137 hco w.heap.size Y.size (by unfold World.shape?; rw [hgY]) s.data.toList hne (by rw [← Lib.size_eq]; omega) (by rw [← Lib.size_eq]; omega)
   (fun j x hx => Lib.cells_of_row hgY Y.size j _ (by rw [List.take_of_length_le (by rw [Array.length_toList]; exact Nat.le_refl _), hYl]; simp [Lib.byteCells, hx]))
  rw [← Lib.size_eq] at hUS
  clear hY
  go_enter Tryz.func92, Tryz.ntmps92
  go_wp2
  go_ret
  have hb1 : Below w.heap.size w (w.alloc (.cells M 5)) := (Below.refl _ w).alloc (Nat.le_refl _) _
  have hb2 : Below w.heap.size (w.alloc (.cells M 5)) ((w.alloc (.cells M 5)).setRow w.heap.size Y) := ⟨rfl, rfl, rfl, by simp, fun k hk => setRow_other _ _ _ _ (by omega)⟩
  exact ⟨rfl, Lib.below_freeze (hb1.trans hb2) (p := ⟨w.heap.size, 0, none⟩) (Nat.le_refl _) _⟩
def ErrVar (G : Nat) (w : World) : Prop := ∃ te pe, w.cell? ⟨G, 0, none⟩ = some (.iface te pe)
theorem ErrVar.below {G : Nat} {w w' : World} (h : ErrVar G w) (b : Below w.heap.size w w') : ErrVar G w' := by
 obtain ⟨te, pe, hc⟩ := h
 exact ⟨te, pe, (b.cell (show (⟨G, 0, none⟩ : Addr).block < w.heap.size from Lib.lt_of_cell hc)).trans hc⟩
set_option maxRecDepth 100000 in
set_option maxHeartbeats 2000000 in
theorem syntaxError_any (fn s : ByteArray) (w : World) (hlim : s.size ≤ 281474976710656) (hv : ErrVar 2 w) :
  Calls Tryz.prog 77 #[.string fn, .string s] w fun e w' => ∃ N, e = .returned (.pointer (some ⟨N, 0, none⟩)) ∧ Below w.heap.size w w' := by
 obtain ⟨te, pe, hv⟩ := hv
 have hG : 2 < w.heap.size := Lib.lt_of_cell hv
 have hvd : w.drew.cell? ⟨2, 0, none⟩ = some (.iface te pe) := hv
 go_enter Tryz.func77, Tryz.ntmps77
 go_wp2
 go_region_with (
   go_at_call 92
   refine (clone_any s _ hlim).mono ?_
   rintro e w2 ⟨rfl, hbel⟩
   have hv2 : w2.cell? ⟨2, 0, none⟩ = some (.iface te pe) := (hbel.cell (show (⟨2, 0, none⟩ : Addr).block < w.drew.heap.size from hG)).trans hvd)
 all_goals (
  go_wp2
  go_ret
  have hs2 : w.heap.size ≤ w2.heap.size := hbel.size
  exact ⟨_, rfl, ((Below.drew (Below.refl _ w)).trans hbel).alloc hs2 _⟩)
set_option maxRecDepth 100000 in
set_option maxHeartbeats 2000000 in
theorem toError_any (fn s : ByteArray) (base bs : Int) (w : World) (hlim : s.size ≤ 281474976710656) (hv : ErrVar 2 w) :
  Calls Tryz.prog 70 #[.string fn, .string s, .int .i64 base, .int .i64 bs, .iface 101 (.int .i64 2)] w fun e w' => ∃ N, e = .returned (.iface 106 (.pointer (some ⟨N, 0, none⟩))) ∧ Below w.heap.size w w' := by
 have heq : ∀ W, (binOp .eql 52 (.iface 101 (.int .i64 2)) (.iface 101 (.int .i64 2))).run Tryz.prog W = .ok (.bool true) W := fun W => Lib.run_eql_iface_int W 2 2 Tryz.underlying52 (by kernel_rfl) Tryz.underlying101
 go_enter Tryz.func70, Tryz.ntmps70
 go_wp2_with (go_at_call 77; refine (syntaxError_any fn s _ hlim hv).mono ?_; rintro e w2 ⟨N, rfl, hb⟩)
 go_ret
 exact ⟨N, rfl, hb⟩
end Go.Proofs.YtgdnpnipahegaaaGreatDoor

namespace Go.Proofs.YtgdnpnipahegaaaGreatDoor
open Go.ChangeShapes Go.WideShapes Go.ChangeAt Go.RowKit Go.Lib

section
variable {P : Program} {ops : Array Oper} {rest : List Oper} {o : Oper} {a : Act} {Q : Exit → Act → World → Prop}
theorem wpList_conv_bytes (w : World) (hw : Region.wanted o (yielded ops a.tmps) = true) (x : Operand) (src dst e : TypeId) (ho : o.op = .convert src dst x)
  (hs : P.underlying src = some .string) (hd : P.underlying dst = some (.slice e)) (he : P.underlying e = some (.int .u8))
  (l : List UInt8) (hx : a.eval x = .string ⟨l.toArray⟩) (hm : l.length ≤ 1000000000)
  (h : ∀ v' w', View w' w.heap.size v' l → Below w.heap.size w w' → wpList P ops Q rest (a.put o.dst v') w') : wpList P ops Q (o :: rest) a w := by
 have hsz : (⟨l.toArray⟩ : ByteArray).size = l.length := size_mk l
 have hcm : grownCap w (⟨l.toArray⟩ : ByteArray).size 0 e ≤ maxLen := grownCap_le_maxLen w _ 0 e (by rw [hsz]; unfold maxLen; omega)
 have hcg := grownCap_ge w (⟨l.toArray⟩ : ByteArray).size 0 e
 refine wpList_wanted hw fun K hK => ?_
 have hrun := run_bytes_of_string (P := P) w src dst e ⟨l.toArray⟩ hs hd he
 generalize grownCap w (⟨l.toArray⟩ : ByteArray).size 0 e = cap at *
 unfold Oper.wp
 simp [execOp, ho, hx, hrun, Result.andThen]
 refine hK _ _ (h _ _ ?_ ?_)
 ·rw [hsz] at hcg ⊢
  refine ⟨_, cap, rfl, hcg, hcm, (fun h => by cases h), 0, fun _ => rfl, fun j hj => ?_⟩
  rw [cell_of_row _ w.heap.size (0 + j) _ e _ (heap_alloc_new w.drew _)]
  unfold bytesRow
  rw [Nat.zero_add, Array.getElem?_append_left (by simpa using hj)]
  simp [hj]
 ·exact (Below.refl _ _).drew.alloc (by simp) _
end

def hexN : Nat → List UInt8 → Option Nat
 | acc, [] => some acc
 | acc, c :: l => if hexV c.toNat < 16 then hexN (acc * 16 + hexV c.toNat) l else none
def hexRes (l : List UInt8) : Value := match hexN 0 l with
 | some n => .tuple #[.int .u64 (n : Int), .nilIface]
 | none => .tuple #[.int .u64 0, .iface 101 (.int .i64 2)]
theorem hexRes_some {l : List UInt8} {n : Nat} (h : hexN 0 l = some n) : hexRes l = .tuple #[.int .u64 (n : Int), .nilIface] := by unfold hexRes; rw [h]
theorem hexRes_none {l : List UInt8} (h : hexN 0 l = none) : hexRes l = .tuple #[.int .u64 0, .iface 101 (.int .i64 2)] := by unfold hexRes; rw [h]
theorem hexN_step {l : List UInt8} {k acc : Nat} (hk : k < l.length) : hexN acc (l.drop k) = if hexV l[k].toNat < 16 then hexN (acc * 16 + hexV l[k].toNat) (l.drop (k + 1)) else none := by
 rw [List.drop_eq_getElem_cons hk, hexN]
theorem hexN_lt : ∀ (l : List UInt8) (acc n : Nat), hexN acc l = some n → n + 1 ≤ (acc + 1) * 16 ^ l.length := by
 intro l
 induction l with
 | nil => intro acc n h; simp [hexN] at h; simp; omega
 | cons c l ih =>
  intro acc n h
  rw [hexN] at h
  by_cases hc : hexV c.toNat < 16
  ·rw [if_pos hc] at h
   have := ih _ _ h
   rw [List.length_cons, Nat.pow_succ, Nat.mul_comm (16 ^ l.length) 16, ← Nat.mul_assoc]
   exact Nat.le_trans this (Nat.mul_le_mul_right _ (by omega))
  ·rw [if_neg hc] at h; cases h

end Go.Proofs.YtgdnpnipahegaaaGreatDoor

namespace Go.Proofs.YtgdnpnipahegaaaGreatDoor
open Go.ChangeShapes Go.WideShapes Go.ChangeAt Go.RowKit

theorem ldrop_cons {l : List UInt8} {k : Nat} (h : k < l.length) : l.drop k = l[k] :: l.drop (k + 1) := List.drop_eq_getElem_cons h
theorem byte_at {l : List UInt8} {k : Nat} (_h : k < l.length) (h2 : k < (⟨l.toArray⟩ : ByteArray).size) : ((⟨l.toArray⟩ : ByteArray)[k]'h2).toNat = l[k].toNat := rfl

end Go.Proofs.YtgdnpnipahegaaaGreatDoor

namespace Go.Proofs.YtgdnpnipahegaaaGreatDoor
open Go.ChangeShapes Go.WideShapes Go.ChangeAt Go.RowKit

def encU (c : Nat) : List UInt8 :=
 if c < 128 then [UInt8.ofNat c] else if c < 2048 then [UInt8.ofNat (192 + c / 64), UInt8.ofNat (128 + c % 64)]
 else if c < 65536 then [UInt8.ofNat (224 + c / 4096), UInt8.ofNat (128 + c / 64 % 64), UInt8.ofNat (128 + c % 64)]
 else [UInt8.ofNat (240 + c / 262144), UInt8.ofNat (128 + c / 4096 % 64), UInt8.ofNat (128 + c / 64 % 64), UInt8.ofNat (128 + c % 64)]

theorem i64_and63 {x : Int} (h0 : 0 ≤ x) (h1 : x < 2147483648) : bits .and .i64 x 63 = x % 64 := bits_mask .i64 63 (by decide) wraps_i64' 6 (by decide) x h0 (by omega)
theorem i64_or128 {y : Int} (h0 : 0 ≤ y) (h1 : y < 64) : bits .or .i64 128 y = 128 + y := bits_join .i64 63 (by decide) wraps_i64' 6 128 y (by decide) (by decide) (by decide) h0 h1 (by omega)
theorem i64_or192 {y : Int} (h0 : 0 ≤ y) (h1 : y < 32) : bits .or .i64 192 y = 192 + y := bits_join .i64 63 (by decide) wraps_i64' 5 192 y (by decide) (by decide) (by decide) h0 (by omega) (by omega)
theorem i64_or224 {y : Int} (h0 : 0 ≤ y) (h1 : y < 16) : bits .or .i64 224 y = 224 + y := bits_join .i64 63 (by decide) wraps_i64' 4 224 y (by decide) (by decide) (by decide) h0 (by omega) (by omega)
theorem i64_or240 {y : Int} (h0 : 0 ≤ y) (h1 : y < 8) : bits .or .i64 240 y = 240 + y := bits_join .i64 63 (by decide) wraps_i64' 3 240 y (by decide) (by decide) (by decide) h0 (by omega) (by omega)

theorem view_new (w : World) (bs : List UInt8) (cells : Array Value) (t : TypeId) (hc : cells.toList = byteCells bs) (hm : bs.length ≤ maxLen) : View (w.alloc (.cells cells t)) w.heap.size (.slice (some ⟨w.heap.size, 0, none⟩) bs.length bs.length) bs :=
 ⟨_, _, rfl, Nat.le_refl _, hm, (fun h => by cases h), 0, (fun _ => rfl), fun j hj => by
  rw [World.cell?_alloc_at cells t _ (0 + j) rfl, ← Array.getElem?_toList, hc]
  simp [byteCells, hj]⟩

end Go.Proofs.YtgdnpnipahegaaaGreatDoor

namespace Go.Proofs.YtgdnpnipahegaaaGreatDoor

def isDg (c : UInt8) : Bool := decide (48 ≤ c.toNat) && decide (c.toNat ≤ 57)
def digN : List UInt8 → Nat
 | [] => 0
 | c :: l => if isDg c then digN l + 1 else 0
theorem digN_le : ∀ l, digN l ≤ l.length
 | [] => Nat.le_refl _
 | c :: l => by unfold digN; split <;> simp; exact digN_le l
def notDel (c : UInt8) : Bool :=
 c.toNat == 45 || c.toNat == 43 || c.toNat == 46 || c.toNat == 95 || (decide (97 ≤ c.toNat) && decide (c.toNat ≤ 122)) || (decide (65 ≤ c.toNat) && decide (c.toNat ≤ 90)) || isDg c
def intN : List UInt8 → Option Nat
 | [] => none
 | c :: l => if c.toNat = 48 then some 1 else if 49 ≤ c.toNat ∧ c.toNat ≤ 57 then some (1 + digN l) else none
def fracN : List UInt8 → Nat
 | a :: d :: l => if a.toNat = 46 ∧ isDg d = true then 2 + digN l else 0
 | _ => 0
def expN : List UInt8 → Option Nat
 | a :: d :: l => if a.toNat = 101 ∨ a.toNat = 69 then (if d.toNat = 43 ∨ d.toNat = 45 then (if l = [] then none else some (2 + digN l)) else some (1 + digN (d :: l))) else some 0
 | _ => some 0
def negN : List UInt8 → Nat
 | c :: _ => if c.toNat = 45 then 1 else 0
 | [] => 0
def numJ (l : List UInt8) : Option Nat := match intN (l.drop (negN l)) with
 | none => none
 | some i => match expN (l.drop (negN l + i + fracN (l.drop (negN l + i)))) with
  | none => none
  | some e => let n := negN l + i + fracN (l.drop (negN l + i)) + e
   match l.drop n with
   | c :: _ => if notDel c then none else some n
   | [] => some n
theorem intN_cons (c : UInt8) (l : List UInt8) : intN (c :: l) = if c.toNat = 48 then some 1 else if 49 ≤ c.toNat ∧ c.toNat ≤ 57 then some (1 + digN l) else none := rfl
theorem fracN_two (a d : UInt8) (l : List UInt8) : fracN (a :: d :: l) = if a.toNat = 46 ∧ isDg d = true then 2 + digN l else 0 := rfl
theorem expN_two (a d : UInt8) (l : List UInt8) : expN (a :: d :: l) = if a.toNat = 101 ∨ a.toNat = 69 then (if d.toNat = 43 ∨ d.toNat = 45 then (if l = [] then none else some (2 + digN l)) else some (1 + digN (d :: l))) else some 0 := rfl
theorem digN_cons (c : UInt8) (l : List UInt8) : digN (c :: l) = if isDg c then digN l + 1 else 0 := rfl
theorem intN_le {l : List UInt8} {i : Nat} (h : intN l = some i) : 1 ≤ i ∧ i ≤ l.length := by
 cases l with
 | nil => cases h
 | cons c l =>
  rw [intN_cons] at h
  by_cases h1 : c.toNat = 48
  ·rw [if_pos h1] at h
   injection h with h
   subst h; simp
  ·rw [if_neg h1] at h
   by_cases h2 : 49 ≤ c.toNat ∧ c.toNat ≤ 57
   ·rw [if_pos h2] at h
    injection h with h
    have := digN_le l
    subst h; simp; omega
   ·rw [if_neg h2] at h; cases h
theorem fracN_le (l : List UInt8) : fracN l ≤ l.length := by
 match l with
 | [] => simp [fracN]
 | [_] => simp [fracN]
 | a :: d :: l =>
  have := digN_le l
  rw [fracN_two]
  simp only [List.length_cons]
  split <;> omega
theorem expN_le {l : List UInt8} {e : Nat} (h : expN l = some e) : e ≤ l.length := by
 match l with
 | [] => simp [expN] at h; omega
 | [_] => simp [expN] at h; omega
 | a :: d :: l =>
  have h1 := digN_le l
  have h2 := digN_le (d :: l)
  simp only [List.length_cons] at h2 ⊢
  rw [expN_two] at h
  by_cases c1 : a.toNat = 101 ∨ a.toNat = 69
  ·rw [if_pos c1] at h
   by_cases c2 : d.toNat = 43 ∨ d.toNat = 45
   ·rw [if_pos c2] at h
    by_cases c3 : l = []
    ·rw [if_pos c3] at h; cases h
    ·rw [if_neg c3] at h; injection h with h; omega
   ·rw [if_neg c2] at h; injection h with h; omega
  ·rw [if_neg c1] at h; injection h with h; omega
theorem negN_le (l : List UInt8) : negN l ≤ l.length ∧ negN l ≤ 1 := by
 unfold negN; split
 ·split <;> simp
 ·simp
theorem numJ_le {l : List UInt8} {n : Nat} (h : numJ l = some n) : 1 ≤ n ∧ n ≤ l.length := by
 unfold numJ at h
 rcases hi : intN (l.drop (negN l)) with _ | i
 ·rw [hi] at h; cases h
 ·rw [hi] at h
  simp only at h
  have h1 := intN_le hi
  have h0 := negN_le l
  have h2 := fracN_le (l.drop (negN l + i))
  simp only [List.length_drop] at h1 h2
  rcases he : expN (l.drop (negN l + i + fracN (l.drop (negN l + i)))) with _ | e
  ·rw [he] at h; cases h
  ·rw [he] at h
   simp only at h
   have h3 := expN_le he
   simp only [List.length_drop] at h3
   rcases hd : l.drop (negN l + i + fracN (l.drop (negN l + i)) + e) with _ | ⟨c, r⟩
   ·rw [hd] at h; simp only [Option.some.injEq] at h; omega
   ·rw [hd] at h
    simp only at h
    cases hn : notDel c with
    | true => rw [hn] at h; cases h
    | false => rw [hn] at h; simp at h; omega
end Go.Proofs.YtgdnpnipahegaaaGreatDoor

namespace Go.Proofs.YtgdnpnipahegaaaGreatDoor

def surrT (v : Nat) : Bool := decide (55296 ≤ v) && decide (v < 57344)
def pairT (v u : Nat) : Nat := if 55296 ≤ v ∧ v < 56320 ∧ 56320 ≤ u ∧ u < 57344 then (v - 55296) * 1024 + (u - 56320) + 65536 else 65533
def isOct (c : UInt8) : Bool := decide (48 ≤ c.toNat) && decide (c.toNat ≤ 55)
def isHex (c : UInt8) : Bool := decide (48 ≤ c.toNat) && decide (c.toNat ≤ 57) || (decide (97 ≤ c.toNat) && decide (c.toNat ≤ 102) || decide (65 ≤ c.toNat) && decide (c.toNat ≤ 70))
def runN (p : UInt8 → Bool) : List UInt8 → Nat
 | [] => 0
 | c :: l => if p c then runN p l + 1 else 0
theorem runN_cons (p : UInt8 → Bool) (c : UInt8) (l : List UInt8) : runN p (c :: l) = if p c then runN p l + 1 else 0 := rfl
theorem runN_le (p : UInt8 → Bool) : ∀ l, runN p l ≤ l.length
 | [] => Nat.le_refl _
 | c :: l => by rw [runN_cons]; split <;> simp; exact runN_le p l
theorem runN_all (p : UInt8 → Bool) : ∀ (l : List UInt8), ∀ c ∈ l.take (runN p l), p c = true
 | [], c, h => by simp at h
 | d :: l, c, h => by
  rw [runN_cons] at h
  split at h
  ·rename_i hd
   rw [List.take_succ_cons, List.mem_cons] at h
   rcases h with rfl | h
   ·exact hd
   ·exact runN_all p l c h
  ·simp at h
def octV : Nat → List UInt8 → Nat
 | acc, [] => acc
 | acc, c :: l => octV (acc * 8 + (c.toNat - 48)) l
def escT1 (c : Nat) : Nat := if c = 34 ∨ c = 39 ∨ c = 92 ∨ c = 63 then c else if c = 97 then 7 else if c = 98 then 8 else if c = 110 then 10 else if c = 114 then 13 else if c = 116 then 9 else if c = 118 then 11 else if c = 102 then 12 else 0
def uniT (d : Nat) (l : List UInt8) : Option (List UInt8 × Nat) :=
 if l.length < d + 2 then none else match hexN 0 ((l.drop 2).take d) with
 | none => none
 | some v => if 1114111 < v then none else if surrT v = false then some (encU v, d + 2)
  else if l.length < d + 8 then none
  else match hexN 0 ((l.drop (d + 4)).take 4) with
  | none => none
  | some u => if (l.getD (d + 2) 0).toNat = 92 ∧ (l.getD (d + 3) 0).toNat = 117 ∧ pairT v u ≠ 65533 then some (encU (pairT v u), d + 8) else none
def octT (l : List UInt8) : Option (List UInt8 × Nat) := if 255 < octV 0 (l.take (min 3 (runN isOct l))) then none else some ([UInt8.ofNat (octV 0 (l.take (min 3 (runN isOct l))))], 1 + min 3 (runN isOct l))
def hexT2 (l : List UInt8) : Option (List UInt8 × Nat) := if runN isHex l = 0 then none else match hexN 0 (l.take (min 2 (runN isHex l))) with
 | none => none
 | some v => some ([UInt8.ofNat v], 2 + min 2 (runN isHex l))
def escT : List UInt8 → Option (List UInt8 × Nat)
 | b :: c :: l => if escT1 c.toNat ≠ 0 then some ([UInt8.ofNat (escT1 c.toNat)], 2) else if isOct c then octT (c :: l) else if c.toNat = 120 then hexT2 l
  else if c.toNat = 117 then uniT 4 (b :: c :: l) else if c.toNat = 85 then uniT 8 (b :: c :: l) else none
 | _ => none
theorem escT_cons (b c : UInt8) (l : List UInt8) : escT (b :: c :: l) = if escT1 c.toNat ≠ 0 then some ([UInt8.ofNat (escT1 c.toNat)], 2) else if isOct c then octT (c :: l) else if c.toNat = 120 then hexT2 l
  else if c.toNat = 117 then uniT 4 (b :: c :: l) else if c.toNat = 85 then uniT 8 (b :: c :: l) else none := rfl
theorem encU_le4 (v : Nat) : (encU v).length ≤ 4 := by
 unfold encU
 split
 ·exact (by decide : 1 ≤ 4)
 ·split
  ·exact (by decide : 2 ≤ 4)
  ·split
   ·exact (by decide : 3 ≤ 4)
   ·exact (by decide : 4 ≤ 4)
theorem uniT_size {d : Nat} {l b : List UInt8} {n : Nat} (h : uniT d l = some (b, n)) : (2 ≤ n ∧ n ≤ l.length) ∧ b.length ≤ 4 := by
 unfold uniT at h
 by_cases h1 : l.length < d + 2
 ·rw [if_pos h1] at h; cases h
 ·rw [if_neg h1] at h
  rcases hv : hexN 0 ((l.drop 2).take d) with _ | v
  ·rw [hv] at h; cases h
  ·rw [hv] at h
   simp only at h
   by_cases h0 : 1114111 < v
   ·rw [if_pos h0] at h; cases h
   ·rw [if_neg h0] at h
    by_cases h2 : surrT v = false
    ·rw [if_pos h2] at h; cases h; exact ⟨by omega, encU_le4 _⟩
    ·rw [if_neg h2] at h
     by_cases h3 : l.length < d + 8
     ·rw [if_pos h3] at h; cases h
     ·rw [if_neg h3] at h
      rcases hu : hexN 0 ((l.drop (d + 4)).take 4) with _ | u
      ·rw [hu] at h; cases h
      ·rw [hu] at h
       simp only at h
       split at h
       ·cases h; exact ⟨by omega, encU_le4 _⟩
       ·cases h
theorem octT_size {l b : List UInt8} {n : Nat} (h : octT l = some (b, n)) : (1 ≤ n ∧ n ≤ 1 + l.length) ∧ b.length = 1 := by
 unfold octT at h
 have := runN_le isOct l
 split at h
 ·cases h
 ·cases h; exact ⟨by omega, rfl⟩
theorem hexT2_size {l b : List UInt8} {n : Nat} (h : hexT2 l = some (b, n)) : (2 ≤ n ∧ n ≤ 2 + l.length) ∧ b.length = 1 := by
 unfold hexT2 at h
 have := runN_le isHex l
 split at h
 ·cases h
 ·split at h
  ·cases h
  ·cases h; exact ⟨by omega, rfl⟩
theorem escT_size {l b : List UInt8} {n : Nat} (h : escT l = some (b, n)) : (1 ≤ n ∧ n ≤ l.length) ∧ b.length ≤ 4 := by
 match l, h with
 | a :: c :: l, h =>
  rw [escT_cons] at h
  split at h
  ·cases h; exact ⟨by simp, (by decide : 1 ≤ 4)⟩
  ·split at h
   ·have := octT_size h; simp at this ⊢; omega
   ·split at h
    ·have := hexT2_size h; simp at this ⊢; omega
    ·split at h
     ·have := uniT_size h; omega
     ·split at h
      ·have := uniT_size h; omega
      ·cases h

def strTF (q : Nat) : Nat → List UInt8 → List UInt8 → Option (List UInt8 × Nat)
 | 0, _, _ => none
 | f + 1, l, out => match u8char l with
  | none => none
  | some (c, n) => if c = 0 ∨ c = 10 then none else if c = q then some (out, l.length - 1)
   else if c = 92 then (match escT l with
    | none => none
    | some (b, m) => strTF q f (l.drop m) (out ++ b))
   else strTF q f (l.drop n) (out ++ l.take n)
def strT (q : Nat) (l out : List UInt8) : Option (List UInt8 × Nat) := strTF q l.length l out
theorem strTF_fuel (q : Nat) : ∀ (f g : Nat) (l out : List UInt8), l.length ≤ f → l.length ≤ g → strTF q f l out = strTF q g l out
 | 0, 0, _, _, _, _ => rfl
 | 0, g + 1, l, out, h, _ => by
  have : l = [] := List.eq_nil_of_length_eq_zero (by omega)
  subst this; rfl
 | f + 1, 0, l, out, _, h => by
  have : l = [] := List.eq_nil_of_length_eq_zero (by omega)
  subst this; rfl
 | f + 1, g + 1, l, out, hf, hg => by
  unfold strTF
  rcases hu : u8char l with _ | ⟨c, n⟩
  ·rfl
  ·have hn := u8char_size hu
   simp only
   split
   ·rfl
   ·split
    ·rfl
    ·split
     ·rcases he : escT l with _ | ⟨b, m⟩
      ·rfl
      ·have hm := escT_size he
       exact strTF_fuel q f g _ _ (by simp; omega) (by simp; omega)
     ·exact strTF_fuel q f g _ _ (by simp; omega) (by simp; omega)
theorem strT_none {q : Nat} {l out : List UInt8} (h : u8char l = none) : strT q l out = none := by
 unfold strT
 cases l with
 | nil => rfl
 | cons c l => rw [List.length_cons, strTF, h]
theorem strT_some {q : Nat} {l out : List UInt8} {c n : Nat} (h : u8char l = some (c, n)) : strT q l out = if c = 0 ∨ c = 10 then none else if c = q then some (out, l.length - 1)
   else if c = 92 then (match escT l with
    | none => none
    | some (b, m) => strT q (l.drop m) (out ++ b))
   else strT q (l.drop n) (out ++ l.take n) := by
 have hn := u8char_size h
 obtain ⟨f, hf⟩ : ∃ f, l.length = f + 1 := ⟨l.length - 1, by omega⟩
 conv => lhs; unfold strT
 rw [hf, strTF, h]
 simp only
 rw [hf]
 split
 ·rfl
 ·split
  ·rfl
  ·split
   ·rcases he : escT l with _ | ⟨b, m⟩
    ·rfl
    ·have hm := escT_size he
     exact strTF_fuel q _ _ _ _ (by simp; omega) (Nat.le_refl _)
   ·exact strTF_fuel q _ _ _ _ (by simp; omega) (Nat.le_refl _)
theorem strTF_le (q : Nat) : ∀ (f : Nat) (l out s : List UInt8) (m : Nat), strTF q f l out = some (s, m) → m + 1 ≤ l.length ∧ s.length ≤ out.length + 4 * l.length
 | 0, _, _, _, _, h => by cases h
 | f + 1, l, out, s, m, h => by
  unfold strTF at h
  rcases hu : u8char l with _ | ⟨c, n⟩
  ·rw [hu] at h; cases h
  ·rw [hu] at h
   have hn := u8char_size hu
   simp only at h
   split at h
   ·cases h
   ·split at h
    ·cases h; omega
    ·split at h
     ·rcases he : escT l with _ | ⟨b, k⟩
      ·rw [he] at h; cases h
      ·rw [he] at h
       have hk := escT_size he
       have := strTF_le q f _ _ _ _ h
       have hb : b.length ≤ 4 * k := by omega
       simp only [List.length_append, List.length_drop] at this
       omega
     ·have := strTF_le q f _ _ _ _ h
      simp only [List.length_append, List.length_drop, List.length_take] at this
      omega
theorem strT_le {q : Nat} {l out s : List UInt8} {m : Nat} (h : strT q l out = some (s, m)) : m + 1 ≤ l.length ∧ s.length ≤ out.length + 4 * l.length := strTF_le q _ _ _ _ _ h
def plainC (c : UInt8) : Bool := !(decide (c.toNat < 32) || (c.toNat == 34 || (c.toNat == 39 || (c.toNat == 92 || decide (127 ≤ c.toNat)))))
def needT (l : List UInt8) : Nat := runN plainC l
theorem strT_skip {q : Nat} (hq : q = 34 ∨ q = 39) : ∀ (l out : List UInt8), strT q l out = strT q (l.drop (needT l)) (out ++ l.take (needT l))
 | [], out => by simp
 | c :: l, out => by
  unfold needT
  rw [runN_cons]
  cases hc : plainC c with
  | false => simp
  | true =>
   rw [if_pos rfl]
   unfold plainC at hc
   simp at hc
   have hu : u8char (c :: l) = some (c.toNat, 1) := by rw [u8char_cons, if_pos (by omega)]
   rw [strT_some hu, if_neg (by omega), if_neg (by omega), if_neg (by omega)]
   rw [List.drop_succ_cons, List.take_succ_cons, List.drop_succ_cons, List.drop_zero, List.take_succ_cons, List.take_zero]
   rw [strT_skip hq l (out ++ [c])]
   unfold needT
   simp
end Go.Proofs.YtgdnpnipahegaaaGreatDoor
