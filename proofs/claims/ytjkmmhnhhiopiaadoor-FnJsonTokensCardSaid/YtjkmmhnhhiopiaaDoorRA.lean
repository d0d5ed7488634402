/-
  The reference's reader of JSON, as plain functions, and walked: its state, blanks, a token added, a number, half a character (eight texts joined).
-/
import Derived.Test.YtjkmmhnhhiopiaaDoorDRun
import Derived.Test.YtjkmmhnhhiopiaaDoorJB
import Derived.Test.YtjkmmhnhhiopiaaDoorDState
import Derived.Deep.QuietTactic
import Derived.BigQuiet
import Derived.Test.YtjkmmhnhhiopiaaDoorDOut
import Derived.StillTailTactics
import Derived.Test.YtjkmmhnhhiopiaaDoorGuard

namespace Go.Proofs.YtjkmmhnhhiopiaaDoor

def hex4R (l : List UInt8) : Option Nat := if l.length < 4 then none else hexN 0 (l.take 4)
/-- a u and four digits, or two such for one character: the bytes, and how many it has; an error 0: none, 2: left open -/
def uniR (l : List UInt8) : Except Nat (List UInt8 × Nat) := match hex4R (l.drop 1) with
  | none => .error 0
  | some c => if c < 55296 ∨ 57344 ≤ c then .ok (encU c, 5)
    else if 56320 ≤ c ∨ l.length < 11 ∨ (l.getD 5 0).toNat ≠ 92 ∨ (l.getD 6 0).toNat ≠ 117 then .error 2
    else match hex4R (l.drop 7) with
      | none => .error 2
      | some d => if d < 56320 ∨ 57344 ≤ d then .error 2 else .ok (encU (65536 + (c - 55296) * 1024 + d - 56320), 11)
/-- what stands behind a backslash -/
def escR : List UInt8 → Except Nat (List UInt8 × Nat)
  | [] => .error 0
  | c :: l => if c.toNat = 34 ∨ c.toNat = 92 ∨ c.toNat = 47 then .ok ([c], 1) else if c.toNat = 98 then .ok ([8], 1) else if c.toNat = 102 then .ok ([12], 1) else if c.toNat = 110 then .ok ([10], 1)
    else if c.toNat = 114 then .ok ([13], 1) else if c.toNat = 116 then .ok ([9], 1) else if c.toNat = 117 then uniR (c :: l) else .error 0
/-- a string behind its first quotation mark: what it stands for, and how many bytes are left behind it -/
def strR : Nat → List UInt8 → List UInt8 → Except Nat (List UInt8 × Nat)
  | 0, _, _ => .error 0
  | _ + 1, [], _ => .error 0
  | f + 1, c :: r, out => if c.toNat = 34 then .ok (out, r.length) else if c.toNat < 32 then .error 0
    else if c.toNat = 92 then (match escR r with
      | .error k => .error k
      | .ok (b, n) => strR f (r.drop n) (out ++ b))
    else if u8size (c :: r) = 0 then .error 0 else strR f ((c :: r).drop (u8size (c :: r))) (out ++ (c :: r).take (u8size (c :: r)))
/-- a string with its quotation marks: what it stands for, and how many bytes it has -/
def jstrR : List UInt8 → Except Nat (List UInt8 × Nat)
  | [] => .error 0
  | _ :: r => match strR r.length r [] with
    | .error k => .error k
    | .ok (s, m) => .ok (s, r.length + 1 - m)

def fracR : List UInt8 → Option Nat
  | c :: r => if c.toNat = 46 then (if digN r = 0 then none else some (1 + digN r)) else some 0
  | [] => some 0
def sgnN : List UInt8 → Nat
  | c :: _ => if c.toNat = 43 ∨ c.toNat = 45 then 1 else 0
  | [] => 0
def expR : List UInt8 → Option Nat
  | c :: r => if c.toNat = 101 ∨ c.toNat = 69 then (if digN (r.drop (sgnN r)) = 0 then none else some (1 + sgnN r + digN (r.drop (sgnN r)))) else some 0
  | [] => some 0
/-- how many bytes at the beginning are a number; 0: none -/
def jnumR (l : List UInt8) : Nat :=
  if digN (l.drop (negN l)) = 0 ∨ (1 < digN (l.drop (negN l)) ∧ (l.getD (negN l) 0).toNat = 48) then 0
  else match fracR (l.drop (negN l + digN (l.drop (negN l)))) with
  | none => 0
  | some f => match expR (l.drop (negN l + digN (l.drop (negN l)) + f)) with
    | none => 0
    | some e => negN l + digN (l.drop (negN l)) + f + e
/-- digits, points and minus signs -/
def mixN : List UInt8 → Nat
  | c :: l => if isDg c || c.toNat == 46 || c.toNat == 45 then mixN l + 1 else 0
  | [] => 0
def halfR (l : List UInt8) : Bool := match l.drop (mixN l) with
  | [] => false
  | c :: r => if mixN l = 0 ∨ ¬ (c.toNat = 101 ∨ c.toNat = 69) then false else digN (r.drop (sgnN r)) == 0

structure RS where
  at_ : Nat
  opn : List Nat
  want : Nat
  told : Nat
  l : List JT
def spR (b : List UInt8) (k : Nat) : Nat := k + wsN (b.drop k)
def pkR (b : List UInt8) (k : Nat) : Nat := match b.drop k with
  | c :: _ => c.toNat
  | [] => 0
def addR (b : List UInt8) (kind : Nat) (str : List UInt8) (tru : Bool) (size : Nat) (s : RS) : RS := { s with at_ := s.at_ + size, l := s.l ++ [⟨kind, s.at_, (b.drop s.at_).take size, str, tru⟩] }
def behR (s : RS) : RS := { s with want := if s.opn = [] then 5 else 4 }
def wordR (b text : List UInt8) (kind : Nat) (tru : Bool) (s : RS) : RS × Bool := if wordD text (b.drop s.at_) then (behR (addR b kind [] tru text.length s), true) else (s, false)
def opensR (b : List UInt8) (kind want : Nat) (s : RS) : RS × Bool := ({ addR b kind [] false 1 { s with opn := s.opn ++ [pkR b s.at_] } with want := want }, true)
def closesR (b : List UInt8) (kind of_ : Nat) (s : RS) : RS × Bool := if s.opn.getLast? = some of_ then (behR (addR b kind [] false 1 { s with opn := s.opn.dropLast }), true) else (s, false)
/-- does the number that is so long end there? -/
def endN (l : List UInt8) (n : Nat) : Bool := match l.drop n with
  | c :: _ => !notDel c
  | [] => true
def numR (b : List UInt8) (s : RS) : RS × Bool := if jnumR (b.drop s.at_) = 0 ∨ endN (b.drop s.at_) (jnumR (b.drop s.at_)) = false then ({ s with told := if halfR (b.drop s.at_) then 2 else s.told }, false) else (behR (addR b 8 [] false (jnumR (b.drop s.at_)) s), true)
def quoR (b : List UInt8) (s : RS) : RS × Bool := match jstrR (b.drop s.at_) with
  | .error k => ({ s with told := k }, false)
  | .ok (t, n) => (behR (addR b 16 t false n s), true)
def valueR (b : List UInt8) (s : RS) : RS × Bool :=
  if pkR b s.at_ = 123 then opensR b 64 3 s else if pkR b s.at_ = 91 then opensR b 256 1 s else if pkR b s.at_ = 34 then quoR b s
  else if pkR b s.at_ = 110 then wordR b [110, 117, 108, 108] 2 false s else if pkR b s.at_ = 116 then wordR b [116, 114, 117, 101] 4 true s else if pkR b s.at_ = 102 then wordR b [102, 97, 108, 115, 101] 4 false s else numR b s
def nameR (b : List UInt8) (s : RS) : RS × Bool :=
  if pkR b s.at_ ≠ 34 then (s, false) else match jstrR (b.drop s.at_) with
  | .error k => ({ s with told := k }, false)
  | .ok (t, n) => if pkR b (spR b (s.at_ + n)) ≠ 58 then ({ s with at_ := spR b (s.at_ + n) }, false)
    else ({ s with at_ := spR b (s.at_ + n) + 1, want := 0, l := s.l ++ [⟨32, s.at_, (b.drop s.at_).take n, t, false⟩] }, true)
def moreR (b : List UInt8) (s : RS) : RS × Bool :=
  if pkR b s.at_ = 125 then closesR b 128 123 s else if pkR b s.at_ = 93 then closesR b 512 91 s else if pkR b s.at_ ≠ 44 then (s, false)
  else if s.opn.getLast? = some 123 then nameR b { s with at_ := spR b (s.at_ + 1) } else valueR b { s with at_ := spR b (s.at_ + 1) }
def nextR (b : List UInt8) (s0 : RS) : RS × Bool :=
  let s : RS := { s0 with at_ := spR b s0.at_ }
  if s0.want = 1 then (if pkR b s.at_ = 93 then closesR b 512 91 s else valueR b s) else if s0.want = 2 then nameR b s
  else if s0.want = 3 then (if pkR b s.at_ = 125 then closesR b 128 123 s else nameR b s) else if s0.want = 4 then moreR b s else valueR b s
/-- up to the end: the state, and whether there was no error -/
def loopR (b : List UInt8) : Nat → RS → RS × Bool
  | 0, s => (s, false)
  | f + 1, s => if s.want = 5 then (s, true) else match nextR b s with
    | (s', false) => (s', false)
    | (s', true) => loopR b f s'
def bomR (b : List UInt8) : Bool := decide (3 ≤ b.length) && ((b.getD 0 0).toNat == 239 && ((b.getD 1 0).toNat == 187 && (b.getD 2 0).toNat == 191))
def newR (b : List UInt8) : RS := ⟨spR b 0, [], 0, 0, []⟩
/-- the tokens, and 1: all are, 0: they are not, 2: left open -/
def allR (b : List UInt8) : List JT × Nat :=
  if bomR b then ([], 2) else if spR b 0 = b.length then ([], 2) else match loopR b (b.length + 1) (newR b) with
  | (s, false) => (s.l, s.told)
  | (s, true) => if spR b s.at_ < b.length then (s.l, 0) else (s.l ++ [⟨1, spR b s.at_, [], [], false⟩], 1)
end Go.Proofs.YtjkmmhnhhiopiaaDoor

namespace Go.Proofs.YtjkmmhnhhiopiaaDoor

/-! ### strings -/
theorem u8char_lt (c : UInt8) (r : List UInt8) (h : c.toNat < 128) : u8char (c :: r) = some (c.toNat, 1) := by rw [u8char_cons, if_pos h]
theorem u8char_ge {c : UInt8} {r : List UInt8} {v n : Nat} (h : ¬ c.toNat < 128) (hu : u8char (c :: r) = some (v, n)) : 128 ≤ v := by
  rw [u8char_cons, if_neg h] at hu
  rcases hh : u8head c.toNat with _ | ⟨k, least, first⟩
  · rw [hh] at hu; cases hu
  · rw [hh] at hu
    simp only at hu
    have hk := u8head_le hh
    rcases ht : u8take k first r with _ | v'
    · rw [ht] at hu; cases hu
    · rw [ht] at hu
      simp only at hu
      split at hu
      · rename_i ho
        unfold u8ok at ho
        simp only [Bool.and_eq_true, decide_eq_true_eq] at ho
        cases hu
        omega
      · cases hu
theorem hex4_drop {l : List UInt8} (k : Nat) : hex4R (l.drop k) = if l.length < k + 4 then none else hexN 0 ((l.drop k).take 4) := by
  unfold hex4R
  rw [List.length_drop]
  by_cases h : l.length < k + 4
  · rw [if_pos (by omega), if_pos h]
  · rw [if_neg (by omega), if_neg h]
/-- the reference's answer and the package's: the same, or left open -/
def Same (x : Except Nat (List UInt8 × Nat)) (y : Option (List UInt8 × Nat)) (d : Nat) : Prop := match x with
  | .ok (t, n) => y = some (t, n + d)
  | .error k => k = 2 ∨ k = 0 ∧ y = none
theorem Same.two {y : Option (List UInt8 × Nat)} {d : Nat} : Same (.error 2) y d := .inl rfl
theorem Same.zero {d : Nat} : Same (.error 0) none d := .inr ⟨rfl, rfl⟩
theorem Same.ok {t : List UInt8} {n d : Nat} {y : Option (List UInt8 × Nat)} (h : y = some (t, n + d)) : Same (.ok (t, n)) y d := h
theorem uni_same (a : UInt8) (l : List UInt8) : Same (uniR l) (escU (a :: l)) 1 := by
  unfold uniR escU
  rw [hex4_drop, hex4_drop, List.length_cons]
  by_cases h1 : l.length < 1 + 4
  · rw [if_pos h1, if_pos (show l.length + 1 < 6 by omega)]; exact .zero
  · rw [if_neg h1, if_neg (show ¬ l.length + 1 < 6 by omega)]
    have e1 : (a :: l).drop 2 = l.drop 1 := rfl
    have e2 : (a :: l).drop 8 = l.drop 7 := rfl
    have e3 : (a :: l).getD 6 0 = l.getD 5 0 := rfl
    have e4 : (a :: l).getD 7 0 = l.getD 6 0 := rfl
    rw [e1, e2, e3, e4]
    rcases hv : hexN 0 ((l.drop 1).take 4) with _ | v
    · exact .zero
    · simp only
      by_cases h2 : v < 55296 ∨ 57344 ≤ v
      · rw [if_pos h2]
        have : surrB v = false := by unfold surrB; simp; omega
        rw [if_pos this]; exact .ok rfl
      · rw [if_neg h2]
        have : ¬ surrB v = false := by unfold surrB; simp; omega
        rw [if_neg this]
        by_cases h3 : 56320 ≤ v ∨ l.length < 11 ∨ (l.getD 5 0).toNat ≠ 92 ∨ (l.getD 6 0).toNat ≠ 117
        · rw [if_pos h3]; exact .two
        · rw [if_neg h3, if_neg (show ¬ l.length + 1 < 12 by omega), if_neg (show ¬ l.length < 7 + 4 by omega)]
          rcases hu : hexN 0 ((l.drop 7).take 4) with _ | u
          · exact .two
          · simp only
            by_cases h4 : u < 56320 ∨ 57344 ≤ u
            · rw [if_pos h4]; exact .two
            · rw [if_neg h4]
              have hp : pairR v u = 65536 + (v - 55296) * 1024 + u - 56320 := by unfold pairR; rw [if_pos (by omega)]; omega
              rw [hp, if_pos ⟨by omega, by omega, by omega⟩]; exact .ok rfl
theorem escR_cons (c : UInt8) (l : List UInt8) : escR (c :: l) = if c.toNat = 34 ∨ c.toNat = 92 ∨ c.toNat = 47 then .ok ([c], 1) else if c.toNat = 98 then .ok ([8], 1) else if c.toNat = 102 then .ok ([12], 1) else if c.toNat = 110 then .ok ([10], 1)
    else if c.toNat = 114 then .ok ([13], 1) else if c.toNat = 116 then .ok ([9], 1) else if c.toNat = 117 then uniR (c :: l) else .error 0 := rfl
theorem esc_same (a : UInt8) (l : List UInt8) : Same (escR l) (escJ (a :: l)) 1 := by
  cases l with
  | nil => exact .zero
  | cons c l =>
    rw [escJ_cons, escR_cons]
    by_cases h1 : c.toNat = 34 ∨ c.toNat = 92 ∨ c.toNat = 47
    · have : escC c.toNat = c.toNat := by unfold escC; rw [if_pos h1]
      rw [if_pos h1, if_neg (show ¬ c.toNat = 117 by omega), this, if_neg (show ¬ c.toNat = 0 by omega)]; exact .ok (by simp)
    · rw [if_neg h1]
      have h1' : escC c.toNat = if c.toNat = 98 then 8 else if c.toNat = 102 then 12 else if c.toNat = 110 then 10 else if c.toNat = 114 then 13 else if c.toNat = 116 then 9 else 0 := by unfold escC; rw [if_neg h1]
      have key : ∀ {k : Nat}, c.toNat ≠ 117 → escC c.toNat = k → k ≠ 0 → Same (.ok ([UInt8.ofNat k], 1)) (if c.toNat = 117 then escU (a :: c :: l) else if escC c.toNat = 0 then none else some ([UInt8.ofNat (escC c.toNat)], 2)) 1 := by
        intro k k1 k2 k3
        rw [if_neg k1, k2, if_neg k3]; exact .ok rfl
      by_cases h2 : c.toNat = 98
      · rw [if_pos h2]; exact key (by omega) (by rw [h1', if_pos h2]) (by decide)
      · rw [if_neg h2] at h1' ⊢
        by_cases h3 : c.toNat = 102
        · rw [if_pos h3]; exact key (by omega) (by rw [h1', if_pos h3]) (by decide)
        · rw [if_neg h3] at h1' ⊢
          by_cases h4 : c.toNat = 110
          · rw [if_pos h4]; exact key (by omega) (by rw [h1', if_pos h4]) (by decide)
          · rw [if_neg h4] at h1' ⊢
            by_cases h5 : c.toNat = 114
            · rw [if_pos h5]; exact key (by omega) (by rw [h1', if_pos h5]) (by decide)
            · rw [if_neg h5] at h1' ⊢
              by_cases h6 : c.toNat = 116
              · rw [if_pos h6]; exact key (by omega) (by rw [h1', if_pos h6]) (by decide)
              · rw [if_neg h6] at h1' ⊢
                by_cases h7 : c.toNat = 117
                · rw [if_pos h7, if_pos h7]; exact uni_same a (c :: l)
                · rw [if_neg h7, if_neg h7, if_pos h1']; exact .zero
theorem str_same : ∀ (f : Nat) (l out : List UInt8), l.length ≤ f → Same (strR f l out) (strL f l out) 0
  | 0, _, _, _ => .zero
  | f + 1, [], _, _ => .zero
  | f + 1, c :: r, out, hf => by
    unfold strR strL
    simp only [List.length_cons] at hf
    by_cases h0 : c.toNat < 128
    · rw [u8char_lt c r h0]
      simp only
      by_cases h1 : c.toNat = 34
      · rw [if_pos h1, if_pos h1]; exact .ok (by simp)
      · rw [if_neg h1, if_neg h1]
        by_cases h2 : c.toNat < 32
        · rw [if_pos h2, if_pos h2]; exact .zero
        · rw [if_neg h2, if_neg h2]
          by_cases h3 : c.toNat = 92
          · rw [if_pos h3, if_pos h3]
            have he := esc_same c r
            rcases hr : escR r with k | ⟨b, n⟩
            · rw [hr] at he
              rcases he with rfl | ⟨rfl, he⟩
              · exact .two
              · rw [he]; exact .zero
            · rw [hr] at he
              replace he : escJ (c :: r) = some (b, n + 1) := he
              rw [he]
              exact str_same f (r.drop n) (out ++ b) (by simp; omega)
          · rw [if_neg h3, if_neg h3]
            have hs : u8size (c :: r) = 1 := by unfold u8size; rw [u8char_lt c r h0]
            rw [hs, if_neg (show ¬ (1 : Nat) = 0 by decide)]
            exact str_same f _ _ (by simp; omega)
    · rw [if_neg (show ¬ c.toNat = 34 by omega), if_neg (show ¬ c.toNat < 32 by omega), if_neg (show ¬ c.toNat = 92 by omega)]
      rcases hu : u8char (c :: r) with _ | ⟨v, n⟩
      · have hs : u8size (c :: r) = 0 := by unfold u8size; rw [hu]
        rw [hs, if_pos rfl]; exact .zero
      · have hs : u8size (c :: r) = n := by unfold u8size; rw [hu]
        have hn := u8char_size hu
        have hv := u8char_ge h0 hu
        rw [hs, if_neg (show ¬ n = 0 by omega)]
        simp only
        rw [if_neg (show ¬ v = 34 by omega), if_neg (show ¬ v < 32 by omega), if_neg (show ¬ v = 92 by omega)]
        exact str_same f _ _ (by simp; omega)
theorem jstr_same (l : List UInt8) : match jstrR l with
    | .ok (t, n) => strJ l = some (t, n)
    | .error k => k = 2 ∨ k = 0 ∧ strJ l = none := by
  cases l with
  | nil => exact .inr ⟨rfl, rfl⟩
  | cons c r =>
    rw [strJ_cons]
    unfold jstrR strA
    have h := str_same r.length r [] (Nat.le_refl _)
    simp only
    rcases hr : strR r.length r [] with k | ⟨s, m⟩
    · rw [hr] at h
      rcases h with h | ⟨h, h2⟩
      · exact .inl h
      · rw [h2]; exact .inr ⟨h, rfl⟩
    · rw [hr] at h
      replace h : strL r.length r [] = some (s, m) := h
      rw [h]

/-! ### numbers -/
theorem digN_drop_len (l : List UInt8) : ∀ c r, l.drop (digN l) = c :: r → isDg c = false := by
  induction l with
  | nil => intro c r h; cases h
  | cons a l ih =>
    intro c r h
    rw [digN_cons] at h
    cases ha : isDg a with
    | true => rw [ha, if_pos rfl, List.drop_succ_cons] at h; exact ih c r h
    | false => rw [ha] at h; simp only [Bool.false_eq_true, if_false, List.drop_zero] at h; injection h with h _; rw [← h]; exact ha
theorem dg_iff (c : UInt8) : isDg c = true ↔ 48 ≤ c.toNat ∧ c.toNat ≤ 57 := by unfold isDg; simp
/-- the whole part: both ways -/
theorem int_same (l : List UInt8) : if digN l = 0 ∨ 1 < digN l ∧ (l.getD 0 0).toNat = 48 then intN l = none ∨ intN l = some 1 ∧ ∃ c r, l.drop 1 = c :: r ∧ isDg c = true else intN l = some (digN l) := by
  cases l with
  | nil => simp [digN, intN]
  | cons c r =>
    rw [digN_cons, intN_cons]
    cases hc : isDg c with
    | false =>
      have : ¬ (48 ≤ c.toNat ∧ c.toNat ≤ 57) := fun h => by rw [(dg_iff c).2 h] at hc; cases hc
      simp only [Bool.false_eq_true, if_false, true_or, if_true]
      left
      rw [if_neg (by omega), if_neg (by omega)]
    | true =>
      have := (dg_iff c).1 hc
      simp only [if_true, List.getD_cons_zero]
      by_cases h48 : c.toNat = 48
      · rw [if_pos h48]
        by_cases hd : digN r = 0
        · rw [hd, if_neg (by omega)]
        · rw [if_pos (by omega)]
          right
          refine ⟨rfl, ?_⟩
          cases r with
          | nil => simp [digN] at hd
          | cons d r =>
            refine ⟨d, r, rfl, ?_⟩
            rw [digN_cons] at hd
            cases hd2 : isDg d with
            | true => rfl
            | false => rw [hd2] at hd; simp at hd
      · rw [if_neg h48, if_pos (show 49 ≤ c.toNat ∧ c.toNat ≤ 57 by omega), if_neg (show ¬ (digN r + 1 = 0 ∨ 1 < digN r + 1 ∧ c.toNat = 48) by omega), Nat.add_comm]
theorem notDel_dg {c : UInt8} (h : isDg c = true) : notDel c = true := by unfold notDel; rw [h]; simp
theorem notDel_pt {c : UInt8} (h : c.toNat = 46) : notDel c = true := by unfold notDel; rw [h]; simp
theorem notDel_e {c : UInt8} (h : c.toNat = 101 ∨ c.toNat = 69) : notDel c = true := by
  unfold notDel
  rcases h with h | h <;> rw [h] <;> simp
theorem expN_no {l : List UInt8} (h : ∀ c r, l = c :: r → ¬ (c.toNat = 101 ∨ c.toNat = 69)) : expN l = some 0 := by
  match l with
  | [] => rfl
  | [_] => rfl
  | a :: d :: r => rw [expN_two, if_neg (h a _ rfl)]
theorem expR_no {l : List UInt8} (h : ∀ c r, l = c :: r → ¬ (c.toNat = 101 ∨ c.toNat = 69)) : expR l = some 0 := by
  match l with
  | [] => rfl
  | a :: r => show (if a.toNat = 101 ∨ a.toNat = 69 then _ else some 0) = some 0; rw [if_neg (h a _ rfl)]
theorem drop_getD {l : List UInt8} {k : Nat} : ((l.drop k).getD 0 0) = l.getD k 0 := by
  simp [List.getD_eq_getElem?_getD]
/-- digits and points ahead -/
theorem mixN_app : ∀ (a r : List UInt8), (∀ c ∈ a, isDg c = true ∨ c.toNat = 46 ∨ c.toNat = 45) → mixN (a ++ r) = a.length + mixN r
  | [], r, _ => by simp
  | c :: a, r, h => by
    have hc := h c (by simp)
    rw [List.cons_append, mixN]
    have : (isDg c || c.toNat == 46 || c.toNat == 45) = true := by rcases hc with h | h | h <;> simp [h]
    rw [this, if_pos rfl, mixN_app a r (fun d hd => h d (by simp [hd]))]
    simp only [List.length_cons]; omega
theorem take_dig (l : List UInt8) : ∀ c ∈ l.take (digN l), isDg c = true := by
  induction l with
  | nil => simp
  | cons a l ih =>
    intro c hc
    rw [digN_cons] at hc
    cases ha : isDg a with
    | false => rw [ha] at hc; simp at hc
    | true =>
      rw [ha, if_pos rfl, List.take_succ_cons, List.mem_cons] at hc
      rcases hc with rfl | hc
      · exact ha
      · exact ih c hc
theorem fracR_cons (c : UInt8) (r : List UInt8) : fracR (c :: r) = if c.toNat = 46 then (if digN r = 0 then none else some (1 + digN r)) else some 0 := rfl
theorem expR_cons (c : UInt8) (r : List UInt8) : expR (c :: r) = if c.toNat = 101 ∨ c.toNat = 69 then (if digN (r.drop (sgnN r)) = 0 then none else some (1 + sgnN r + digN (r.drop (sgnN r)))) else some 0 := rfl
def FracS (l : List UInt8) (x : Option Nat) : Prop := match x with
    | none => fracN l = 0 ∧ ∃ c r, l = c :: r ∧ c.toNat = 46
    | some f => fracN l = f ∧ f ≤ l.length ∧ ∀ c ∈ l.take f, isDg c = true ∨ c.toNat = 46 ∨ c.toNat = 45
theorem FracS.none {l : List UInt8} (h : fracN l = 0 ∧ ∃ c r, l = c :: r ∧ c.toNat = 46) : FracS l none := h
theorem FracS.some {l : List UInt8} {f : Nat} (h : fracN l = f ∧ f ≤ l.length ∧ ∀ c ∈ l.take f, isDg c = true ∨ c.toNat = 46 ∨ c.toNat = 45) : FracS l (some f) := h
theorem frac_same (l : List UInt8) : FracS l (fracR l) := by
  match l with
  | [] => exact .some (by simp [fracN])
  | [c] =>
    rw [fracR_cons]
    by_cases h : c.toNat = 46
    · rw [if_pos h, if_pos (show digN [] = 0 from rfl)]; exact .none ⟨rfl, c, [], rfl, h⟩
    · rw [if_neg h]; exact .some (by simp [fracN])
  | c :: d :: r =>
    rw [fracR_cons]
    by_cases h : c.toNat = 46
    · rw [if_pos h]
      cases hd : isDg d with
      | false =>
        rw [digN_cons, hd]
        exact .none ⟨by rw [fracN_two, hd]; simp, c, d :: r, rfl, h⟩
      | true =>
        rw [digN_cons, hd, if_pos rfl, if_neg (show ¬ digN r + 1 = 0 by omega)]
        have hl := digN_le r
        refine .some ⟨by rw [fracN_two, if_pos ⟨h, hd⟩]; omega, by simp only [List.length_cons]; omega, fun x hx => ?_⟩
        rw [show 1 + (digN r + 1) = digN r + 1 + 1 by omega, List.take_succ_cons, List.take_succ_cons, List.mem_cons, List.mem_cons] at hx
        rcases hx with rfl | rfl | hx
        · exact .inr (.inl h)
        · exact .inl hd
        · exact .inl (take_dig r x hx)
    · rw [if_neg h]; exact .some (by rw [fracN_two]; simp [h])
def ExpS (l : List UInt8) (x : Option Nat) : Prop := match x with
    | none => ∃ c r, l = c :: r ∧ (c.toNat = 101 ∨ c.toNat = 69) ∧ digN (r.drop (sgnN r)) = 0
    | some e => expN l = some e
theorem ExpS.none {l : List UInt8} (h : ∃ c r, l = c :: r ∧ (c.toNat = 101 ∨ c.toNat = 69) ∧ digN (r.drop (sgnN r)) = 0) : ExpS l none := h
theorem ExpS.some {l : List UInt8} {e : Nat} (h : expN l = some e) : ExpS l (some e) := h
theorem exp_same (l : List UInt8) : ExpS l (expR l) := by
  match l with
  | [] => exact .some rfl
  | [c] =>
    rw [expR_cons]
    by_cases h : c.toNat = 101 ∨ c.toNat = 69
    · rw [if_pos h, if_pos (by simp [sgnN, digN])]
      exact .none ⟨c, [], rfl, h, by simp [sgnN, digN]⟩
    · rw [if_neg h]; exact .some rfl
  | c :: d :: r =>
    rw [expR_cons]
    by_cases h : c.toNat = 101 ∨ c.toNat = 69
    · rw [if_pos h]
      by_cases hz : digN ((d :: r).drop (sgnN (d :: r))) = 0
      · rw [if_pos hz]; exact .none ⟨c, d :: r, rfl, h, hz⟩
      · rw [if_neg hz]
        refine .some ?_
        rw [expN_two, if_pos h]
        by_cases hs : d.toNat = 43 ∨ d.toNat = 45
        · have e1 : sgnN (d :: r) = 1 := by show (if d.toNat = 43 ∨ d.toNat = 45 then 1 else 0) = 1; rw [if_pos hs]
          rw [e1] at hz ⊢
          rw [if_pos hs]
          have : r ≠ [] := by intro e; subst e; simp [digN] at hz
          rw [if_neg this]; try rfl
        · have e1 : sgnN (d :: r) = 0 := by show (if d.toNat = 43 ∨ d.toNat = 45 then 1 else 0) = 0; rw [if_neg hs]
          rw [e1, if_neg hs]; try rfl
    · rw [if_neg h]; exact .some (by rw [expN_two, if_neg h])
theorem numJ_of {l : List UInt8} {i f e : Nat} (h1 : intN (l.drop (negN l)) = some i) (h2 : fracN (l.drop (negN l + i)) = f) (h3 : expN (l.drop (negN l + i + f)) = some e) :
    numJ l = if endN l (negN l + i + f + e) = true then some (negN l + i + f + e) else none := by
  unfold numJ
  rw [h1]
  simp only
  rw [h2, h3]
  simp only
  unfold endN
  rcases hd : l.drop (negN l + i + f + e) with _ | ⟨c, r⟩
  · simp
  · cases hn : notDel c <;> simp [hn]
theorem negR_cons (c : UInt8) (l : List UInt8) : negN (c :: l) = if c.toNat = 45 then 1 else 0 := rfl
theorem neg_mix (l : List UInt8) : ∀ c ∈ l.take (negN l), isDg c = true ∨ c.toNat = 46 ∨ c.toNat = 45 := by
  cases l with
  | nil => simp
  | cons c l =>
    rw [negR_cons]
    by_cases h : c.toNat = 45
    · rw [if_pos h]
      intro d hd
      simp at hd
      subst hd
      exact .inr (.inr h)
    · rw [if_neg h]; simp
theorem end_no {l : List UInt8} {n : Nat} {c : UInt8} {r : List UInt8} (h : l.drop n = c :: r) (hc : notDel c = true) : endN l n = false := by
  unfold endN; rw [h]; simp [hc]
/-- a number that goes on -/
theorem numJ_no {l : List UInt8} {i : Nat} {c : UInt8} {r : List UInt8} (h1 : intN (l.drop (negN l)) = some i) (hc : l.drop (negN l + i) = c :: r) (hf : fracN (c :: r) = 0) (he : ¬ (c.toNat = 101 ∨ c.toNat = 69)) (hn : notDel c = true) : numJ l = none := by
  have h2 : fracN (l.drop (negN l + i)) = 0 := by rw [hc]; exact hf
  have h3 : expN (l.drop (negN l + i + 0)) = some 0 := by rw [Nat.add_zero, hc]; exact expN_no (fun c' r' e => by injection e with e _; rw [← e]; exact he)
  rw [numJ_of h1 h2 h3, end_no (n := negN l + i + 0 + 0) hc hn]
  try rfl
theorem num_same (l : List UInt8) : if jnumR l = 0 ∨ endN l (jnumR l) = false then halfR l = true ∨ numJ l = none else numJ l = some (jnumR l) := by
  have hi := int_same (l.drop (negN l))
  have hn := negN_le l
  unfold jnumR
  rw [drop_getD] at hi
  by_cases h1 : digN (l.drop (negN l)) = 0 ∨ 1 < digN (l.drop (negN l)) ∧ (l.getD (negN l) 0).toNat = 48
  · rw [if_pos h1] at hi ⊢
    rw [if_pos (.inl rfl)]
    right
    rcases hi with hi | ⟨hi, c, r, hc, hcd⟩
    · unfold numJ; rw [hi]
    · rw [List.drop_drop] at hc
      have hd := (dg_iff c).1 hcd
      have hfr : fracN (c :: r) = 0 := by
        cases r with
        | nil => rfl
        | cons d r => rw [fracN_two, if_neg (by omega)]
      exact numJ_no hi hc hfr (by omega) (notDel_dg hcd)
  · rw [if_neg h1] at hi ⊢
    have hf := frac_same (l.drop (negN l + digN (l.drop (negN l))))
    have hdl := digN_le (l.drop (negN l))
    simp only [List.length_drop] at hdl
    generalize hgi : digN (l.drop (negN l)) = i at *
    rcases hfr : fracR (l.drop (negN l + i)) with _ | f
    · rw [hfr] at hf
      simp only
      obtain ⟨hf0, c, r, hc, hc46⟩ := hf
      rw [if_pos (.inl trivial)]
      exact .inr (numJ_no hi hc (by rw [← hc]; exact hf0) (by omega) (notDel_pt hc46))
    · rw [hfr] at hf
      simp only
      obtain ⟨hf0, hfl, hfm⟩ := hf
      have he := exp_same (l.drop (negN l + i + f))
      rcases her : expR (l.drop (negN l + i + f)) with _ | e
      · rw [her] at he
        simp only
        obtain ⟨c, r, hc, hce, hcz⟩ := he
        rw [if_pos (.inl trivial)]
        left
        have hall : ∀ d ∈ l.take (negN l + i + f), isDg d = true ∨ d.toNat = 46 ∨ d.toNat = 45 := by
          intro d hd
          rw [List.take_add, List.take_add, List.mem_append, List.mem_append] at hd
          rcases hd with (hd | hd) | hd
          · exact neg_mix l d hd
          · rw [← hgi] at hd; exact .inl (take_dig _ d hd)
          · exact hfm d hd
        have hm : mixN l = negN l + i + f := by
          conv => lhs; rw [← List.take_append_drop (negN l + i + f) l]
          rw [mixN_app _ _ hall, hc, mixN]
          have : isDg c = false := by
            cases hcd : isDg c with
            | false => rfl
            | true => have := (dg_iff c).1 hcd; omega
          have h2 : (isDg c || c.toNat == 46 || c.toNat == 45) = false := by rw [this]; simp; omega
          rw [h2]
          simp only [Bool.false_eq_true, if_false, Nat.add_zero, List.length_take]
          simp only [List.length_drop] at hfl
          omega
        unfold halfR
        rw [hm, hc]
        simp only
        rw [if_neg (by omega), hcz]
        try rfl
      · rw [her] at he
        replace he : expN (l.drop (negN l + i + f)) = some e := he
        simp only
        rw [numJ_of hi hf0 he]
        by_cases hend : endN l (negN l + i + f + e) = true
        · rw [if_neg (by rw [hend]; simp; omega), if_pos hend]
        · rw [if_pos (.inr (by simpa using hend)), if_neg hend]; exact .inr rfl
theorem num_head {l : List UInt8} {n : Nat} (h : numJ l = some n) : ∃ c r, l = c :: r ∧ (c.toNat = 45 ∨ isDg c = true) := by
  unfold numJ at h
  cases l with
  | nil => simp [negN, intN] at h
  | cons c r =>
    refine ⟨c, r, rfl, ?_⟩
    by_cases hc : c.toNat = 45
    · exact .inl hc
    · right
      have h0 : negN (c :: r) = 0 := by rw [negR_cons, if_neg hc]
      rw [h0, List.drop_zero, intN_cons] at h
      rw [dg_iff]
      by_cases h1 : c.toNat = 48
      · omega
      · rw [if_neg h1] at h
        by_cases h2 : 49 ≤ c.toNat ∧ c.toNat ≤ 57
        · omega
        · rw [if_neg h2] at h; cases h
end Go.Proofs.YtjkmmhnhhiopiaaDoor

namespace Go.Proofs.YtjkmmhnhhiopiaaDoor
open Go.ChangeShapes Go.WideShapes Go.ChangeAt Go.RowKit

def rCells (vb vo vl : Value) (r : RS) : List Value := [vb, .int .i64 (r.at_ : Int), vo, .int .i64 (r.want : Int), .int .i64 (r.told : Int), vl]
def opB (o : List Nat) : List UInt8 := o.map UInt8.ofNat
theorem opB_len (o : List Nat) : (opB o).length = o.length := by simp [opB]

/-- The reader lies in block p, what it reads in block g; B: the heap's size ahead of it. -/
structure RW (B p g : Nat) (bs : List UInt8) (vb vo vl : Value) (r : RS) (w : World) : Prop where
  row : RowAt w p (rCells vb vo vl r)
  inn : View w g vb bs
  opn : OwnB w B 5 vo (opB r.opn)
  l : OwnT w B vl r.l
  le : r.at_ ≤ bs.length
  bp : B ≤ p
  gl : bs ≠ [] → g < B
  po : vo.ownBlock ≠ some p
  pl : vl.ownBlock ≠ some p
  ol : ∀ k, vo.ownBlock = some k → vl.ownBlock ≠ some k

theorem view_keep {w w' : World} {g : Nat} {v : Value} {bs : List UInt8} (h : View w g v bs) (hg : bs ≠ [] → w'.heap[g]? = w.heap[g]?) : View w' g v bs := by
  by_cases hne : bs = []
  · obtain ⟨ao, cap, hv, h1, h2, hn0, off, h3, h4⟩ := h
    exact ⟨ao, cap, hv, h1, h2, hn0, off, h3, fun j hj => by rw [hne] at hj; simp at hj⟩
  · exact h.kept (hg hne)
section
variable {B p g : Nat} {bs : List UInt8} {vb vo vl : Value} {r : RS} {w : World}
theorem RW.lt (h : RW B p g bs vb vo vl r w) : p < w.heap.size := h.row.lt
theorem RW.base (h : RW B p g bs vb vo vl r w) : B ≤ w.heap.size := by have := h.lt; have := h.bp; omega
theorem RW.kept {w' : World} (h : RW B p g bs vb vo vl r w) (hp : w'.heap[p]? = w.heap[p]?) (hB : ∀ k, k < B → w'.heap[k]? = w.heap[k]?) (ho : OwnB w' B 5 vo (opB r.opn)) (hl : OwnT w' B vl r.l) : RW B p g bs vb vo vl r w' :=
  { h with row := h.row.kept hp, inn := view_keep h.inn (fun hne => hB g (h.gl hne)), opn := ho, l := hl }
theorem RW.below {w' : World} (h : RW B p g bs vb vo vl r w) (hb : Below w.heap.size w w') : RW B p g bs vb vo vl r w' :=
  h.kept (hb.block p h.lt) (fun k hk => hb.block k (by have := h.base; omega))
    (World.ownsRow.kept h.opn (row := none) ⟨hb.os, hb.tape, hb.output, hb.size, fun k hk _ => hb.block k hk⟩ (by cases vo.ownBlock <;> simp))
    (World.ownsRow.kept h.l (row := none) ⟨hb.os, hb.tape, hb.output, hb.size, fun k hk _ => hb.block k hk⟩ (by cases vl.ownBlock <;> simp))
theorem RW.alloc (h : RW B p g bs vb vo vl r w) (o : Obj) : RW B p g bs vb vo vl r (w.alloc o) := h.below ((Below.refl _ _).alloc (Nat.le_refl _) _)
theorem RW.drew (h : RW B p g bs vb vo vl r w) : RW B p g bs vb vo vl r w.drew := h.below (Below.refl _ _).drew
theorem RW.drewN (h : RW B p g bs vb vo vl r w) (n : Nat) : RW B p g bs vb vo vl r (w.drewN n) := h.below ⟨rfl, rfl, rfl, Nat.le_refl _, fun _ _ => rfl⟩
theorem RW.c (h : RW B p g bs vb vo vl r w) : (w.cell? ⟨p, 0, none⟩ = some vb ∧ w.cell? ⟨p, 1, none⟩ = some (.int .i64 (r.at_ : Int)) ∧ w.cell? ⟨p, 2, none⟩ = some vo ∧ w.cell? ⟨p, 3, none⟩ = some (.int .i64 (r.want : Int)) ∧ w.cell? ⟨p, 4, none⟩ = some (.int .i64 (r.told : Int)) ∧ w.cell? ⟨p, 5, none⟩ = some vl) :=
  ⟨(h.row 0 _ rfl).1, (h.row 1 _ rfl).1, (h.row 2 _ rfl).1, (h.row 3 _ rfl).1, (h.row 4 _ rfl).1, (h.row 5 _ rfl).1⟩
theorem RW.f (h : RW B p g bs vb vo vl r w) (k : Nat) (hk : k < 6) : w.frozen? ⟨p, k, none⟩ = false := (h.row k (rCells vb vo vl r)[k] (List.getElem?_eq_getElem (by simpa [rCells] using hk))).2
/-- where only the reader's own block is written -/
theorem RW.reset {w' : World} {r' : RS} (h : RW B p g bs vb vo vl r w) (hg : w.grownBy w' (some p)) (hrow : RowAt w' p (rCells vb vo vl r')) (ho : r'.opn = r.opn) (hl : r'.l = r.l) (hle : r'.at_ ≤ bs.length) : RW B p g bs vb vo vl r' w' :=
  { h with
    row := hrow
    inn := view_keep h.inn (fun hne => hg.block g (by have := h.gl hne; have := h.base; omega) (fun e => by injection e with e; have := h.gl hne; have := h.bp; omega))
    opn := by rw [ho]; exact World.ownsRow.kept h.opn hg (.inr h.po)
    l := by rw [hl]; exact World.ownsRow.kept h.l hg (.inr h.pl)
    le := hle }
theorem RW.setAt (h : RW B p g bs vb vo vl r w) {n : Nat} (hn : n ≤ bs.length) : RW B p g bs vb vo vl { r with at_ := n } (w.setCell ⟨p, 1, none⟩ (.int .i64 (n : Int))) :=
  h.reset (grownBy_set w p 1 _) (by have := h.row.set 1 (by simp [rCells]) (.int .i64 (n : Int)); exact this) rfl rfl hn
theorem RW.setWant (h : RW B p g bs vb vo vl r w) (n : Nat) : RW B p g bs vb vo vl { r with want := n } (w.setCell ⟨p, 3, none⟩ (.int .i64 (n : Int))) :=
  h.reset (grownBy_set w p 3 _) (by have := h.row.set 3 (by simp [rCells]) (.int .i64 (n : Int)); exact this) rfl rfl h.le
theorem RW.setTold (h : RW B p g bs vb vo vl r w) (n : Nat) : RW B p g bs vb vo vl { r with told := n } (w.setCell ⟨p, 4, none⟩ (.int .i64 (n : Int))) :=
  h.reset (grownBy_set w p 4 _) (by have := h.row.set 4 (by simp [rCells]) (.int .i64 (n : Int)); exact this) rfl rfl h.le
/-- 'r.open = append(r.open, ..)', 'r.open = r.open[:n-1]' -/
theorem RW.push {w' : World} {v' : Value} {o' : List Nat} (h : RW B p g bs vb vo vl r w) (hg : w.grownBy w' vo.ownBlock) (hown : OwnB w' B 5 v' (opB o')) (hl : v'.ownBlock = vo.ownBlock ∨ v'.ownBlock = some w.heap.size) :
    RW B p g bs vb v' vl { r with opn := o' } (w'.setCell ⟨p, 2, none⟩ v') ∧ JStep p vo vl w v' vl (w'.setCell ⟨p, 2, none⟩ v') := by
  have hpb : w'.heap[p]? = w.heap[p]? := hg.block p h.lt (fun e => h.po e.symm)
  have hlt := h.lt
  have hnp : v'.ownBlock ≠ some p := by
    rcases hl with e | e
    · rw [e]; exact h.po
    · rw [e]; intro e2; injection e2 with e2; omega
  have hB : ∀ k, k < B → w'.heap[k]? = w.heap[k]? := fun k hk => hg.block k (by have := h.base; omega) (fun e => by have := (World.ownsRow.lt h.opn k e.symm).1; omega)
  have hll : OwnT w' B vl r.l := World.ownsRow.kept h.l hg (by
    cases hk : vl.ownBlock with
    | none => exact .inl rfl
    | some k => exact .inr (fun e => h.ol k e.symm hk))
  refine ⟨{
    row := by have := (h.row.kept hpb).set 2 (by simp [rCells]) v'; exact this
    inn := view_keep h.inn (fun hne => (Below.heap_setCell w' _ _ g (by have := h.gl hne; have := h.bp; simp; omega)).trans (hB g (h.gl hne)))
    opn := World.ownsRow.kept hown (grownBy_set w' p 2 _) (.inr hnp)
    l := World.ownsRow.kept hll (grownBy_set w' p 2 _) (.inr h.pl)
    le := h.le
    bp := h.bp
    gl := h.gl
    po := hnp
    pl := h.pl
    ol := fun k hk => by
      rcases hl with e | e
      · exact h.ol k (by rw [← e]; exact hk)
      · rw [e] at hk
        injection hk with hk
        intro e2
        have := (World.ownsRow.lt h.l k e2).2
        omega }, ?_⟩
  exact ⟨hg.os, hg.tape, hg.output, by rw [size_setCell]; exact hg.size, fun k hk h1 h2 _ => by
    rw [Below.heap_setCell w' _ _ k (by simpa using h1)]
    exact hg.block k hk (fun e => h2 e.symm), fun k hk => by
    rcases hl with e | e
    · exact .inl (by rw [← e]; exact hk)
    · rw [e] at hk; injection hk with hk; exact .inr (by omega), fun _ h => .inl h⟩
theorem opB_drop (o : List Nat) : opB o.dropLast = (opB o).dropLast := by unfold opB; rw [List.map_dropLast]
theorem RW.pop {q m cp : Nat} (h : RW B p g bs vb (.slice (some ⟨q, 0, none⟩) (m + 1) cp) vl r w) (hm : r.opn.length = m + 1) :
    RW B p g bs vb (.slice (some ⟨q, 0, none⟩) m cp) vl { r with opn := r.opn.dropLast } (w.setCell ⟨p, 2, none⟩ (.slice (some ⟨q, 0, none⟩) m cp)) ∧
      JStep p (.slice (some ⟨q, 0, none⟩) (m + 1) cp) vl w (.slice (some ⟨q, 0, none⟩) m cp) vl (w.setCell ⟨p, 2, none⟩ (.slice (some ⟨q, 0, none⟩) m cp)) := by
  have hml := (opB_len r.opn).trans hm
  have hown : OwnB w B 5 (.slice (some ⟨q, 0, none⟩) m cp) (opB r.opn.dropLast) := by
    rw [opB_drop]
    obtain ⟨h1, h2⟩ := h.opn
    refine ⟨by simp [byteCells], ?_⟩
    rcases h2 with ⟨e, _⟩ | ⟨q', cap, cur, e, hb, hg, hnc, hcm, hcs, ht⟩
    · cases e
    · injection e with e1 e2 e3
      injection e1 with e1
      injection e1 with e1
      subst e1 e3
      refine .inr ⟨q, cp, cur, by simp [hml], hb, hg, by simp; omega, hcm, hcs, ?_⟩
      have h3 := congrArg (List.take m) ht
      rw [List.take_take, hml] at h3
      simp only [Nat.mul_one] at h3
      rw [Nat.min_eq_left (by omega)] at h3
      simp only [List.length_dropLast, hml, Nat.add_sub_cancel, Nat.mul_one]
      rw [h3, List.dropLast_eq_take, hml, Nat.add_sub_cancel]
      unfold byteCells
      rw [List.map_take]
  exact h.push (w' := w) ⟨rfl, rfl, rfl, Nat.le_refl _, fun _ _ _ => rfl⟩ hown (.inl rfl)
/-- 'r.l = append(r.l, ..)' -/
theorem RW.add {w' : World} {v' : Value} {l' : List JT} (h : RW B p g bs vb vo vl r w) (ha : Appt w B vl v' l' w') :
    RW B p g bs vb vo v' { r with l := l' } (w'.setCell ⟨p, 5, none⟩ v') ∧ JStep p vo vl w vo v' (w'.setCell ⟨p, 5, none⟩ v') := by
  have hg := ha.grown
  have hl := ha.lies
  have hlt := h.lt
  have hpb : w'.heap[p]? = w.heap[p]? := hg.block p h.lt (fun e => h.pl e.symm)
  have hnp : v'.ownBlock ≠ some p := by
    rcases hl with e | e
    · rw [e]; exact h.pl
    · rw [e]; intro e2; injection e2 with e2; omega
  have hB : ∀ k, k < B → w'.heap[k]? = w.heap[k]? := fun k hk => hg.block k (by have := h.base; omega) (fun e => by have := (World.ownsRow.lt h.l k e.symm).1; omega)
  have hoo : OwnB w' B 5 vo (opB r.opn) := World.ownsRow.kept h.opn hg (by
    cases hk : vo.ownBlock with
    | none => exact .inl rfl
    | some k => exact .inr (fun e => h.ol k hk e.symm))
  refine ⟨{
    row := by have := (h.row.kept hpb).set 5 (by simp [rCells]) v'; exact this
    inn := view_keep h.inn (fun hne => (Below.heap_setCell w' _ _ g (by have := h.gl hne; have := h.bp; simp; omega)).trans (hB g (h.gl hne)))
    opn := World.ownsRow.kept hoo (grownBy_set w' p 5 _) (.inr h.po)
    l := World.ownsRow.kept ha.own (grownBy_set w' p 5 _) (.inr hnp)
    le := h.le
    bp := h.bp
    gl := h.gl
    po := h.po
    pl := hnp
    ol := fun k hk e2 => by
      rcases hl with e | e
      · exact h.ol k hk (by rw [← e]; exact e2)
      · rw [e] at e2
        injection e2 with e2
        have := (World.ownsRow.lt h.opn k hk).2
        omega }, JStep.add ha 5 v'⟩
theorem RW.far (h : RW B p g bs vb vo vl r w) (b o : Nat) (u : Value) (hb : B ≤ b) (h1 : b ≠ p) (h2 : vo.ownBlock ≠ some b) (h3 : vl.ownBlock ≠ some b) : RW B p g bs vb vo vl r (w.setCell ⟨b, o, none⟩ u) :=
  h.kept (Below.heap_setCell w _ _ p (by simpa using Ne.symm h1)) (fun k hk => Below.heap_setCell w _ _ k (by simp; omega))
    (World.ownsRow.kept h.opn (grownBy_set w b o u) (.inr h2)) (World.ownsRow.kept h.l (grownBy_set w b o u) (.inr h3))
theorem RW.appt {v' : Value} {w' : World} {l : List JT} (h : RW B p g bs vb vo vl r w) (ha : Appt w B vl v' l w') : w'.cell? ⟨p, 5, none⟩ = some vl ∧ w'.frozen? ⟨p, 5, none⟩ = false := by
  have hpb : w'.heap[p]? = w.heap[p]? := ha.grown.block p h.lt (fun e => h.pl e.symm)
  exact ⟨by rw [World.cell?_of_block hpb]; exact (h.row 5 _ rfl).1, by rw [World.frozen?_of_block hpb]; exact (h.row 5 _ rfl).2⟩
theorem RW.appd {v' : Value} {w' : World} {l : List UInt8} (h : RW B p g bs vb vo vl r w) (ha : Appd w B 5 vo v' l w') : w'.cell? ⟨p, 2, none⟩ = some vo ∧ w'.frozen? ⟨p, 2, none⟩ = false := by
  have hpb : w'.heap[p]? = w.heap[p]? := ha.grown.block p h.lt (fun e => h.po e.symm)
  exact ⟨by rw [World.cell?_of_block hpb]; exact (h.row 2 _ rfl).1, by rw [World.frozen?_of_block hpb]; exact (h.row 2 _ rfl).2⟩
end
/-- a call on the reader: what it returned, and what it left -/
def RDid (B p g : Nat) (bs : List UInt8) (vb vo vl : Value) (r' : RS) (v : Value) (w : World) (e : Ending) (w' : World) : Prop :=
  e = .returned v ∧ ∃ vo' vl', RW B p g bs vb vo' vl' r' w' ∧ JStep p vo vl w vo' vl' w'
def rAt (p : Nat) (w : World) : Nat := match w.cell? ⟨p, 1, none⟩ with
  | some (.int _ n) => n.toNat
  | _ => 0
theorem rAt_of {p : Nat} {w : World} {n : Nat} (h : w.cell? ⟨p, 1, none⟩ = some (.int .i64 (n : Int))) : rAt p w = n := by unfold rAt; rw [h]; simp
end Go.Proofs.YtjkmmhnhhiopiaaDoor

namespace Go.Proofs.YtjkmmhnhhiopiaaDoor
open Go.ChangeShapes Go.WideShapes Go.ChangeAt Go.RowKit

theorem view_open {w : World} {g : Nat} {v : Value} {bs : List UInt8} (h : View w g v bs) : ∃ ao cap, v = .slice ao bs.length cap ∧ ∀ j (hj : j < bs.length), ∃ o, ao = some ⟨g, o, none⟩ ∧ w.cell? ⟨g, o + j, none⟩ = some (.int .u8 (bs[j].toNat : Int)) := by
  obtain ⟨ao, cap, hv, h1, h2, hn0, off, h3, h4⟩ := h
  exact ⟨ao, cap, hv, fun j hj => ⟨off, h3 (by intro e; subst e; simp at hj), h4 j hj⟩⟩
theorem spR_stop {bs : List UInt8} {k : Nat} (h : ¬ k < bs.length ∨ ∃ h : k < bs.length, wsC bs[k] = false) : spR bs k = k := by
  unfold spR
  rcases h with h | ⟨h, hc⟩
  · rw [List.drop_eq_nil_of_le (by omega)]; try rfl
  · rw [List.drop_eq_getElem_cons h, wsN_cons, hc]; try rfl
theorem spR_go1 {bs : List UInt8} {k : Nat} (h : k < bs.length) (hc : wsC bs[k] = true) : spR bs k = spR bs (k + 1) := by
  unfold spR
  rw [List.drop_eq_getElem_cons h, wsN_cons, hc, if_pos rfl]
  omega
variable {B p g : Nat} {bs : List UInt8} {vb vo vl : Value}
theorem rAt_set {p : Nat} {w : World} {u : Value} {z : Int} (h : w.cell? ⟨p, 1, none⟩ = some u) : rAt p (w.setCell ⟨p, 1, none⟩ (.int .i64 z)) = z.toNat := by
  unfold rAt; rw [World.cell?_setCell_same _ _ _ h]
def SpInv (B p g : Nat) (bs : List UInt8) (vb vo vl : Value) (r : RS) (w : World) (wr : World) : Prop :=
  ∃ k, RW B p g bs vb vo vl { r with at_ := k } wr ∧ spR bs r.at_ = spR bs k ∧ w.grownBy wr (some p)
set_option maxRecDepth 100000 in
set_option maxHeartbeats 4000000 in
theorem rspace_any (r : RS) (w : World) (h : RW B p g bs vb vo vl r w) (hm : bs.length ≤ 100000000) :
    Calls Tryd.prog 29 #[.pointer (some ⟨p, 0, none⟩)] w (RDid B p g bs vb vo vl { r with at_ := spR bs r.at_ } (.tuple #[]) w) := by
  have HH := hid h
  clear h
  go_enter Tryd.func29, Tryd.ntmps29
  go_wp2_with fail
  go_loopw [] (fun wr => SpInv B p g bs vb vo vl r w wr) (fun wr => bs.length - rAt p wr)
  case atStart => exact ⟨r.at_, HH.out, rfl, ⟨rfl, rfl, rfl, Nat.le_refl _, fun _ _ _ => rfl⟩⟩
  case round =>
    obtain ⟨k, hrw, hgo, hgr⟩ := hrel
    have HD := hid hrw
    have HG := hid hgo
    have HR := hid hgr
    obtain ⟨ao, cp, rfl, hcell⟩ := view_open hrw.inn
    obtain ⟨c0, c1, -⟩ := hrw.c
    have f1 := hrw.f 1 (by decide)
    have hkl := hrw.le
    have hmu := rAt_of c1
    simp only at c1 hkl hmu
    clear hrw hgo hgr
    by_cases hlt : k < bs.length
    · obtain ⟨o, rfl, hck⟩ := hcell k hlt
      obtain ⟨c, hc⟩ : ∃ c, c = bs[k] := ⟨_, rfl⟩
      have HC := hid hc
      rw [← hc] at hck
      have hdk : decide ((k : Int) < (bs.length : Int)) = true := by simp; exact hlt
      clear hcell hc
      cases hw : wsC c with
      | false =>
        have HS := hid (spR_stop (bs := bs) (.inr ⟨hlt, by rw [← HC.out]; exact hw⟩))
        have hcs : ((c.toNat : Int) == 32) = false ∧ ((c.toNat : Int) == 10) = false ∧ ((c.toNat : Int) == 13) = false ∧ ((c.toNat : Int) == 9) = false := by
          unfold wsC at hw; simp at hw ⊢; omega
        obtain ⟨q1, q2, q3, q4⟩ := hcs
        clear hw
        go_wp2_with fail
        go_quiet (fail)
        go_wp2_with fail
        go_end0
        refine ⟨rfl, vo, vl, ?_, ?_⟩
        · rw [HG.out, HS.out]; exact HD.out.drewN _
        · exact (JStep.picked HR.out).trans (JStep.of_below ⟨rfl, rfl, rfl, Nat.le_refl _, fun _ _ => rfl⟩)
      | true =>
        have HS := hid (spR_go1 hlt (by rw [← HC.out]; exact hw))
        have hcs : ((c.toNat : Int) == 32) = true ∨ ((c.toNat : Int) == 32) = false ∧ (((c.toNat : Int) == 9) = true ∨ ((c.toNat : Int) == 9) = false ∧ (((c.toNat : Int) == 10) = true ∨ ((c.toNat : Int) == 10) = false ∧ ((c.toNat : Int) == 13) = true)) := by
          unfold wsC at hw; simp at hw ⊢; omega
        clear hw
        rcases hcs with q1 | ⟨q1, q2 | ⟨q2, q3 | ⟨q3, q4⟩⟩⟩
        all_goals
          go_wp2_with fail
          go_quiet (fail)
          go_wp2_with fail
          go_roundw
          case rel => exact ⟨k + 1, by have := (HD.out.drewN nq).setAt (n := k + 1) (by omega); exact this, by rw [HG.out, HS.out], grownBy_thenSet (w := wr.drewN nq) ⟨HR.out.os, HR.out.tape, HR.out.output, HR.out.size, HR.out.block⟩ 1 _⟩
          case measure => rw [hmu, rAt_set (w := wr.drewN nq) c1]; omega
    · have HS := hid (spR_stop (bs := bs) (.inl hlt))
      have hdk : decide ((k : Int) < (bs.length : Int)) = false := by simp; omega
      clear hcell
      go_wp2_with fail
      go_quiet (fail)
      go_wp2_with fail
      go_end0
      refine ⟨rfl, vo, vl, ?_, ?_⟩
      · rw [HG.out, HS.out]; exact HD.out.drewN _
      · exact (JStep.picked HR.out).trans (JStep.of_below ⟨rfl, rfl, rfl, Nat.le_refl _, fun _ _ => rfl⟩)
end Go.Proofs.YtjkmmhnhhiopiaaDoor

namespace Go.Proofs.YtjkmmhnhhiopiaaDoor
open Go.ChangeShapes Go.WideShapes Go.ChangeAt Go.RowKit
attribute [local go_sem ↓] Go.wp_at_zero Go.wp_at_succ

variable {B p g : Nat} {bs : List UInt8} {vb vo vl : Value}
theorem pkR_at {k : Nat} (h : k < bs.length) : pkR bs k = bs[k].toNat := by unfold pkR; rw [List.drop_eq_getElem_cons h]
theorem pkR_end {k : Nat} (h : ¬ k < bs.length) : pkR bs k = 0 := by unfold pkR; rw [List.drop_eq_nil_of_le (by omega)]
set_option maxRecDepth 100000 in
theorem rpeek_any (r : RS) (w : World) (h : RW B p g bs vb vo vl r w) (_hm : bs.length ≤ 100000000) :
    Calls Tryd.prog 41 #[.pointer (some ⟨p, 0, none⟩)] w fun e w' => e = .returned (.int .u8 (pkR bs r.at_ : Int)) ∧ Below w.heap.size w w' := by
  have HH := hid h
  obtain ⟨ao, cp, rfl, hcell⟩ := view_open h.inn
  obtain ⟨c0, c1, -⟩ := h.c
  have hle := h.le
  clear h
  generalize hk : r.at_ = k at *
  clear hk
  by_cases hlt : k < bs.length
  · obtain ⟨o, rfl, hck⟩ := hcell k hlt
    have HP := hid (pkR_at hlt)
    generalize bs[k] = c at *
    have hdk : decide ((k : Int) < (bs.length : Int)) = true := by simp; exact hlt
    clear hcell
    go_enter Tryd.func41, Tryd.ntmps41
    go_wp2_with fail
    go_quiet (fail)
    go_wp2_with fail
    go_quiet (fail)
    go_wp2_with fail
    go_ret
    exact ⟨by rw [HP.out]; try rfl, ⟨rfl, rfl, rfl, Nat.le_refl _, fun _ _ => rfl⟩⟩
  · have HP := hid (pkR_end hlt)
    have hdk : decide ((k : Int) < (bs.length : Int)) = false := by simp; omega
    clear hcell
    go_enter Tryd.func41, Tryd.ntmps41
    go_wp2_with fail
    go_quiet (fail)
    go_wp2_with fail
    go_ret
    exact ⟨by rw [HP.out]; try rfl, ⟨rfl, rfl, rfl, Nat.le_refl _, fun _ _ => rfl⟩⟩
set_option maxRecDepth 100000 in
theorem rbehind_any (r : RS) (w : World) (h : RW B p g bs vb vo vl r w) :
    Calls Tryd.prog 61 #[.pointer (some ⟨p, 0, none⟩)] w (RDid B p g bs vb vo vl (behR r) (.tuple #[]) w) := by
  have HH := hid h
  obtain ⟨-, -, c2, c3, -⟩ := h.c
  have f3 := h.f 3 (by decide)
  obtain ⟨ao, cp, rfl⟩ := h.opn.slice
  rw [opB_len] at c2 HH ⊢
  rcases ho : r.opn with _ | ⟨x, l⟩
  · have HE : Hid (behR r = { r with want := 5 }) := hid (by unfold behR; rw [ho]; try rfl)
    rw [ho] at c2 HH
    clear h ho
    go_enter Tryd.func61, Tryd.ntmps61
    go_wp2_with fail
    go_end0
    have h1 := (HH.out.setWant 4).setWant 5
    refine ⟨rfl, _, _, ?_, (JStep.picked (grownBy_set w p 3 (.int .i64 4))).trans (JStep.picked (grownBy_set _ p 3 (.int .i64 5)))⟩
    rw [HE.out]; exact h1
  · have HE : Hid (behR r = { r with want := 4 }) := hid (by unfold behR; rw [ho]; try rfl)
    rw [ho] at c2 HH
    have hne : (((x :: l).length : Nat) : Int) = ((l.length + 1 : Nat) : Int) := rfl
    have hl0 : (((x :: l).length : Int) == 0) = false := by simp; omega
    clear h ho hne
    generalize (x :: l).length = n at *
    go_enter Tryd.func61, Tryd.ntmps61
    go_wp2_with fail
    go_end0
    refine ⟨rfl, _, _, ?_, JStep.picked (grownBy_set w p 3 (.int .i64 4))⟩
    rw [HE.out]; exact HH.out.setWant 4
section
variable {P : Program}
/-- v[lo:hi], as an equation -/
theorem view_both {w : World} {g : Nat} {v : Value} {bs : List UInt8} (hv : View w g v bs) (t e : TypeId) (ht : P.underlying t = some (.slice e)) (hinfo : (P.info? e).map (fun i => (i.zero, i.size, i.bytes)) = some (some (.int .u8 0), 1, 1))
    (k k' : IntKind) (l m : Int) (n j : Nat) (hl : l = (n : Int)) (hj : m = (j : Int)) (hn : n ≤ j) (hm : j ≤ bs.length) : ∃ v', (∀ W, (Instr.slice t v (some (.int k l)) (some (.int k' m)) none).run P W = .ok v' W) ∧ View w g v' ((bs.drop n).take (j - n)) := by
  subst hl hj
  obtain ⟨ao, cap, rfl, h3, h4, hn0, off, h5, h6⟩ := hv
  obtain ⟨inf, hi1, hz, hz1, hz2⟩ := info_parts hinfo
  have hlen : ((bs.drop n).take (j - n)).length = j - n := by simp; omega
  refine ⟨sliced ao n j cap 1, fun W => ?_, ?_⟩
  · have hs : P.underlying t = some (.slice (P.elem t)) := by simp [Program.elem, ht]
    have he : P.elem t = e := by simp [Program.elem, ht]
    have hsz : (sizeOf (P.elem t)).run P W = .ok 1 W := by simp [sizeOf, typeInfo, he, hi1, hz1]
    rw [run_slice_lh W t ao bs.length cap hs k k' (n : Int) (j : Int) (by omega) (by omega) (by omega), hsz]
    simp [Result.andThen]
  · refine ⟨_, _, by rw [hlen]; try rfl, by omega, by omega, by intro he; cases ao with
      | none => have := hn0 rfl; omega
      | some ad => split at he <;> simp at he, off + n, ?_, ?_⟩
    · intro hne
      have : j - n ≠ 0 := by intro e; apply hne; exact List.eq_nil_of_length_eq_zero (by omega)
      have hbs : bs ≠ [] := by intro e; subst e; simp at hm; omega
      rw [if_neg (by omega), h5 hbs]
      simp [Addr.add_lit]
    · intro i hi
      rw [hlen] at hi
      have e1 : off + n + i = off + (n + i) := by omega
      rw [e1, h6 (n + i) (by omega)]
      simp
/-- string(v), as an equation -/
theorem view_string {w : World} {g : Nat} {v : Value} {bs : List UInt8} (hv : View w g v bs) (src dst e : TypeId) (hs : P.underlying src = some (.slice e)) (he : P.underlying e = some (.int .u8)) (hd : P.underlying dst = some .string) :
    (convert src dst v).run P w = .ok (.string ⟨bs.toArray⟩) w := by
  obtain ⟨ao, cap, rfl, h3, h4, hn0, off, h5, h6⟩ := hv
  by_cases hne : bs = []
  · subst hne
    cases ao with
    | none =>
      rw [run_convert_bytes_string w src dst e none _ _ hs he hd]
      simp [Conv.bytesToString]
      rfl
    | some ad => exact run_convert_bytes_back w src dst e ad cap [] hs he hd (fun j hj => by simp at hj)
  · rw [h5 hne]
    exact run_convert_bytes_back w src dst e _ cap bs hs he hd (fun j hj => by rw [Addr.add_lit]; exact h6 j hj)
end
/-- the walk of 'add' -/
def addCells (kind : Nat) (str : List UInt8) (tru : Bool) : Array Value := #[.int .i64 kind, .int .i64 0, .string ⟨#[]⟩, .string ⟨str.toArray⟩, .bool tru]
set_option maxRecDepth 100000 in
set_option maxHeartbeats 4000000 in
theorem radd_any (kind n : Nat) (str : List UInt8) (tru : Bool) (r : RS) (w : World) (h : RW B p g bs vb vo vl r w) (hm : bs.length ≤ 100000000) (hn : r.at_ + n ≤ bs.length) (hll : r.l.length ≤ 900000) :
    Calls Tryd.prog 60 #[.pointer (some ⟨p, 0, none⟩), .agg #[.int .i64 kind, .int .i64 0, .string ⟨#[]⟩, .string ⟨str.toArray⟩, .bool tru], .int .i64 (n : Int)] w (RDid B p g bs vb vo vl (addR bs kind str tru n r) (.tuple #[]) w) := by
  have hltp := h.lt
  have hB := h.base
  have hp := h.bp
  have n1 : vo.ownBlock ≠ some w.heap.size := fun e => by have := (World.ownsRow.lt h.opn _ e).2; omega
  have n2 : vl.ownBlock ≠ some w.heap.size := fun e => by have := (World.ownsRow.lt h.l _ e).2; omega
  have HH := hid h
  have HE : Hid (addR bs kind str tru n r = { r with at_ := r.at_ + n, l := r.l ++ [⟨kind, r.at_, (bs.drop r.at_).take n, str, tru⟩] }) := hid rfl
  obtain ⟨ao, cp, rfl⟩ := h.inn.slice
  obtain ⟨c0, c1, -, -, -, c5⟩ := h.c
  have f1 := h.f 1 (by decide)
  have f5 := h.f 5 (by decide)
  have hne : p ≠ w.heap.size := by omega
  have HI := hid h.inn
  obtain ⟨k, hk⟩ : ∃ k, k = r.at_ := ⟨_, rfl⟩
  rw [← hk] at c1 hn HE
  have HK := hid hk
  clear hk
  have h0k : (0 : Int) ≤ (k : Int) := by omega
  have hkn : (k : Int) ≤ ((k + n : Nat) : Int) := by omega
  have hkl : ((k + n : Nat) : Int) ≤ (bs.length : Int) := by omega
  obtain ⟨v', hsl, hv'⟩ := view_both (P := Tryd.prog) h.inn 28 5 Tryd.underlying28 info5u .i64 .i64 (k : Int) ((k : Int) + (n : Int)) k (k + n) rfl (by omega) (by omega) hn
  rw [Nat.add_sub_cancel_left] at hv'
  have HV' := hid hv'
  clear h hv'
  go_enter Tryd.func60, Tryd.ntmps60
  go_upto_region 2 with fail
  generalize hw1 : World.alloc w _ = w1
  have hb1 : Below w.heap.size w w1 := by rw [← hw1]; exact (Below.refl _ _).alloc (Nat.le_refl _) _
  have d0 := (hb1.cell (p := ⟨p, 0, none⟩) hltp).trans c0
  have d1 := (hb1.cell (p := ⟨p, 1, none⟩) hltp).trans c1
  have hcv : (convert 28 9 v').run Tryd.prog w1.drew = .ok (.string ⟨((bs.drop k).take n).toArray⟩) w1.drew := view_string (P := Tryd.prog) ((HV'.out.below hb1).drew) 28 9 5 Tryd.underlying28 Tryd.underlying5 Tryd.underlying9
  have hcb : ∀ o, w1.cell? ⟨w.heap.size, o, none⟩ = #[Value.int .i64 kind, .int .i64 k, .string ⟨#[]⟩, .string ⟨str.toArray⟩, .bool tru][o]? := fun o => by rw [← hw1]; exact World.cell?_alloc_at _ _ _ o rfl
  have hfb : ∀ o, w1.frozen? ⟨w.heap.size, o, none⟩ = false := fun o => by rw [← hw1]; simp [go_sem]
  have b0 := hcb 0
  have b1 := hcb 1
  have b2 := hcb 2
  have b3 := hcb 3
  have b4 := hcb 4
  have e2 := hfb 2
  simp only [List.getElem?_toArray, List.getElem?_cons_zero, List.getElem?_cons_succ] at b0 b1 b2 b3 b4
  have hs1 : w.heap.size < w1.heap.size := by rw [← hw1]; simp
  have hwr : IntKind.i64.wrap ((k : Int) + (n : Int)) = (k : Int) + (n : Int) := IntWalk.i64_in _ (by omega)
  clear hw1 hcb hfb
  go_still_tail 16, (by kernel_rfl)
  change wpList _ _ _ _ _ w1.drew
  clear hwr hcv hsl
  generalize hT : (bs.drop k).take n = T at *
  obtain ⟨w2, hw2⟩ : ∃ w2, w2 = w1.drew := ⟨_, rfl⟩
  have hc2 : ∀ a, w2.cell? a = w1.cell? a := fun a => by rw [hw2]; try rfl
  have hf2 : ∀ a, w2.frozen? a = w1.frozen? a := fun a => by rw [hw2]; try rfl
  have hb2 : Below w.heap.size w w2 := by rw [hw2]; exact hb1.drew
  have hs2 : w.heap.size < w2.heap.size := by rw [hw2]; exact hs1
  rw [← hw2]
  rw [← hc2] at b0 b1 b2 b3 b4
  rw [← hf2] at e2
  clear hw2 hc2 hf2 d0 d1
  go_upto_region 3 with fail
  have HJ : Hid (RW B p g bs (.slice ao bs.length cp) vo vl r (w2.setCell ⟨w.heap.size, 2, none⟩ (.string ⟨T.toArray⟩))) := hid ((HH.out.below hb2).far _ _ _ hB (Ne.symm hne) n1 n2)
  have HS : Hid (JStep p vo vl w vo vl (w2.setCell ⟨w.heap.size, 2, none⟩ (.string ⟨T.toArray⟩))) := hid ((JStep.of_below hb2).far _ 2 _ (Nat.le_refl _))
  have d2 := setCell_same1 (.string ⟨T.toArray⟩) b2
  have d0 : (w2.setCell ⟨w.heap.size, 2, none⟩ (.string ⟨T.toArray⟩)).cell? ⟨w.heap.size, 0, none⟩ = _ := (setCell_other _ (ne_off (by decide))).trans b0
  have d1 : (w2.setCell ⟨w.heap.size, 2, none⟩ (.string ⟨T.toArray⟩)).cell? ⟨w.heap.size, 1, none⟩ = _ := (setCell_other _ (ne_off (by decide))).trans b1
  have d3 : (w2.setCell ⟨w.heap.size, 2, none⟩ (.string ⟨T.toArray⟩)).cell? ⟨w.heap.size, 3, none⟩ = _ := (setCell_other _ (ne_off (by decide))).trans b3
  have d4 : (w2.setCell ⟨w.heap.size, 2, none⟩ (.string ⟨T.toArray⟩)).cell? ⟨w.heap.size, 4, none⟩ = _ := (setCell_other _ (ne_off (by decide))).trans b4
  have hl3 : p < (w2.setCell ⟨w.heap.size, 2, none⟩ (.string ⟨T.toArray⟩)).heap.size := HJ.out.lt
  have hl4 : w.heap.size < (w2.setCell ⟨w.heap.size, 2, none⟩ (.string ⟨T.toArray⟩)).heap.size := by rw [size_setCell]; exact hs2
  clear b0 b1 b2 b3 b4 e2 hb2 hs2 c0 c1 c5 f1 f5 hb1 hs1
  generalize w2.setCell ⟨w.heap.size, 2, none⟩ (.string ⟨T.toArray⟩) = w3 at *
  obtain ⟨-, c1, -, -, -, c5⟩ := HJ.out.c
  have f5 := HJ.out.f 5 (by decide)
  rw [← HK.out] at c1
  have hj3 := HJ.out
  go_region_law
    (first
     | (refine step_append_tok _ (by rfl) _ _ _ (by rfl) B Tryd.underlying37 tokInfo vl r.l (by rfl) (hj3.alloc _).drew.l ⟨w3.heap.size, 0, none⟩ 1 ⟨kind, k, T, str, tru⟩ (by rfl) (World.news_of_block (cs := #[.int .i64 kind, .int .i64 k, .string ⟨T.toArray⟩, .string ⟨str.toArray⟩, .bool tru]) (t := 41) (fr := (0, 0)) (heap_alloc_new w3 _)) (hj3.alloc _).drew.base (by omega) ?_; intro v4 w4 ha4; obtain ⟨hc4, hf4⟩ := (hj3.alloc _).drew.appt ha4; have HA := hid ((hj3.alloc _).drew.add ha4); obtain ⟨ao4, cc4, rfl⟩ := ha4.own.slice; clear ha4)
     )
  all_goals
    have HA2 := HA.out
    simp only [List.length_append, List.length_cons, List.length_nil, Nat.zero_add] at HA2
    replace HA := hid HA2
    clear HA2 hc4 hf4
    generalize World.setCell w4 _ _ = w5 at *
    obtain ⟨-, e1, -⟩ := HA.out.1.c
    have g1 := HA.out.1.f 1 (by decide)
    rw [show r.at_ = k from HK.out.symm] at e1
    go_wp2_with fail
    go_end0
    have h1 := HA.out.1.setAt hn
    refine ⟨rfl, _, _, ?_, (((HS.out.alloc _).drew).trans HA.out.2).trans (JStep.picked (grownBy_set _ p 1 (.int .i64 ((k : Int) + n))))⟩
    rw [HE.out]
    exact h1
end Go.Proofs.YtjkmmhnhhiopiaaDoor

namespace Go.Proofs.YtjkmmhnhhiopiaaDoor
open Go.ChangeShapes Go.WideShapes Go.ChangeAt Go.RowKit

set_option maxRecDepth 100000 in
set_option maxHeartbeats 1000000 in
theorem wordByte_any (c : UInt8) (w : World) : Calls Tryd.prog 66 #[.int .u8 (c.toNat : Int)] w fun e w' => e = .returned (.bool (notDel c)) ∧ w = w' := by
  have bc := byte_bd c
  have hn : notDel c = (c.toNat == 45 || c.toNat == 43 || c.toNat == 46 || c.toNat == 95 || (decide (97 ≤ c.toNat) && decide (c.toNat ≤ 122)) || (decide (65 ≤ c.toNat) && decide (c.toNat ≤ 90)) || isDg c) := rfl
  unfold isDg at hn
  generalize c.toNat = n at *
  have HN := hid hn
  clear hn
  go_enter Tryd.func66, Tryd.ntmps66
  go_wp2
  all_goals
    go_ret
    refine ⟨?_, rfl⟩
    rw [HN.out]
    first
    | (refine ret_bool ?_; simp; omega)
    | (refine ret_bool ?_; simp)

def hexI (n : Nat) : Int := if hexV n < 16 then (hexV n : Int) else -1
theorem hexI_all : ((List.range 256).all fun n => decide (hexI n = if 48 ≤ n ∧ n ≤ 57 then (n : Int) - 48 else if 97 ≤ n ∧ n ≤ 102 then (n : Int) - 97 + 10 else if 65 ≤ n ∧ n ≤ 70 then (n : Int) - 65 + 10 else -1)) = true := by decide +kernel
theorem hexI_eq {n : Nat} (h : n < 256) : hexI n = if 48 ≤ n ∧ n ≤ 57 then (n : Int) - 48 else if 97 ≤ n ∧ n ≤ 102 then (n : Int) - 97 + 10 else if 65 ≤ n ∧ n ≤ 70 then (n : Int) - 65 + 10 else -1 := by
  have := List.all_eq_true.1 hexI_all n (List.mem_range.2 h)
  simpa using this
set_option maxRecDepth 100000 in
set_option maxHeartbeats 1000000 in
theorem hexDigit_any (c : UInt8) (w : World) : Calls Tryd.prog 102 #[.int .u8 (c.toNat : Int)] w fun e w' => e = .returned (.int .i64 (hexI c.toNat)) ∧ w = w' := by
  have bc := byte_bd c
  have hn := hexI_eq c.toNat_lt
  generalize c.toNat = n at *
  have HN := hid hn
  clear hn
  go_enter Tryd.func102, Tryd.ntmps102
  go_wp2
  all_goals
    go_ret
    refine ⟨ret_int ?_, rfl⟩
    rw [HN.out]
    repeat' split
    all_goals first
      | rfl
      | omega
def hex4I (l : List UInt8) : Int := match hex4R l with
  | some n => (n : Int)
  | none => -1
theorem hex4I_some {l : List UInt8} {n : Nat} (h : hex4R l = some n) : hex4I l = n := by unfold hex4I; rw [h]
theorem hex4I_none {l : List UInt8} (h : hex4R l = none) : hex4I l = -1 := by unfold hex4I; rw [h]
theorem hexV_I (n : Nat) : (hexV n < 16 ∧ hexI n = hexV n) ∨ (¬ hexV n < 16 ∧ hexI n = -1) := by
  unfold hexI
  by_cases h : hexV n < 16
  · left; rw [if_pos h]; exact ⟨h, rfl⟩
  · right; rw [if_neg h]; exact ⟨h, rfl⟩
set_option maxRecDepth 100000 in
set_option maxHeartbeats 1000000 in
theorem hex4_any (v : Value) (l : List UInt8) (g : Nat) (w : World) (hv : View w g v l) (hm : l.length ≤ 100000000) :
    Calls Tryd.prog 95 #[v] w fun e w' => e = .returned (.int .i64 (hex4I l)) ∧ Below w.heap.size w w' := by
  by_cases h4 : l.length < 4
  · have HF : Hid (hex4I l = -1) := hid (hex4I_none (by unfold hex4R; rw [if_pos h4]))
    obtain ⟨ao, cap, rfl⟩ := hv.slice
    have hd : decide ((l.length : Int) < 4) = true := by simp; omega
    go_enter Tryd.func95, Tryd.ntmps95
    go_wp2_with fail
    go_ret
    exact ⟨by rw [HF.out]; try rfl, Below.refl _ _⟩
  · have HF : Hid (hex4R l = hexN 0 (l.take 4)) := hid (by unfold hex4R; rw [if_neg h4])
    have hd : decide ((l.length : Int) < 4) = false := by simp; omega
    obtain ⟨t, ht0⟩ : ∃ t, t = l.take 4 := ⟨_, rfl⟩
    rw [← ht0] at HF
    have ht : t.length = 4 := by rw [ht0]; simp; omega
    have hget : ∀ k, k < 4 → t[k]? = l[k]? := fun k h => by rw [ht0, List.getElem?_take, if_pos h]
    clear ht0
    obtain ⟨ao, cap, rfl, hcell⟩ := view_open hv
    have HT := hid ht
    have HC := hid hcell
    have HG := hid hget
    clear hv hcell ht hget
    go_enter Tryd.func95, Tryd.ntmps95
    go_wp2_with fail
    go_loopw [3, 4] (fun n i wr => ∃ k acc : Nat, k ≤ 4 ∧ i = .int .i64 k ∧ n = .int .i64 acc ∧ hexN 0 t = hexN acc (t.drop k) ∧ acc + 1 ≤ 16 ^ k ∧ w = wr) (fun _ i _ => 4 - (intOf i).toNat)
    case atStart => exact ⟨0, 0, by omega, rfl, rfl, rfl, by simp, rfl⟩
    case round =>
      obtain ⟨k, acc, hk, rfl, rfl, hx, hb, rfl⟩ := hrel
      have HX := hid hx
      clear hx
      have hacc : acc < 65536 := by
        have : 16 ^ k ≤ 16 ^ 4 := Nat.pow_le_pow_right (by decide) hk
        omega
      have HB := hid hb
      clear hb
      by_cases hlt : k < 4
      · obtain ⟨o, rfl, hck⟩ := HC.out k (by omega)
        have hst := hexN_step (l := t) (acc := acc) (show k < t.length by rw [HT.out]; exact hlt)
        have hge := HG.out k hlt
        rw [List.getElem?_eq_getElem (show k < t.length by rw [HT.out]; exact hlt), List.getElem?_eq_getElem (show k < l.length by omega), Option.some.injEq] at hge
        rw [hge] at hst
        clear hge
        obtain ⟨c, hc⟩ : ∃ c, c = l[k]'(by omega) := ⟨_, rfl⟩
        rw [← hc] at hst hck
        clear hc
        have HS := hid hst
        have hI := hexV_I c.toNat
        have HD := hid (hexDigit_any c)
        clear hst
        rcases hI with ⟨h16, hI⟩ | ⟨h16, hI⟩
        · have HI := hid hI
          have h0 := byte_bd c
          clear hI
          rw [HI.out] at HD
          go_wp2_with (first | (go_at_call 102; refine (Calls.mono (HD.out _) ?_); rintro e w' ⟨rfl, rfl⟩) | fail)
          go_roundw
          case rel => exact ⟨k + 1, acc * 16 + hexV c.toNat, by omega, by go_num, by go_num, by rw [HX.out, HS.out, if_pos h16], by have := HB.out; rw [Nat.pow_succ]; omega, trivial⟩
          case measure => simp [intOf]; omega
        · have HI := hid hI
          clear hI
          rw [HI.out] at HD
          have HF2 : Hid (hex4I l = -1) := hid (hex4I_none (by rw [HF.out, HX.out, HS.out, if_neg h16]))
          go_wp2_with (first | (go_at_call 102; refine (Calls.mono (HD.out _) ?_); rintro e w' ⟨rfl, rfl⟩) | fail)
          go_ret
          exact ⟨by rw [HF2.out]; try rfl, Below.refl _ _⟩
      · have hk4 : k = 4 := by omega
        have HF2 : Hid (hex4I l = acc) := hid (hex4I_some (by rw [HF.out, HX.out, List.drop_eq_nil_of_le (by rw [HT.out]; omega)]; try rfl))
        clear hk4
        go_wp2_with fail
        go_ret
        exact ⟨by rw [HF2.out]; try rfl, Below.refl _ _⟩
end Go.Proofs.YtjkmmhnhhiopiaaDoor

namespace Go.Proofs.YtjkmmhnhhiopiaaDoor
open Go.ChangeShapes Go.WideShapes Go.ChangeAt Go.RowKit

theorem dig_go {l : List UInt8} {k : Nat} (h : k < l.length) (hc : isDg l[k] = true) : k + digN (l.drop k) = k + 1 + digN (l.drop (k + 1)) := by
  rw [List.drop_eq_getElem_cons h, digN_cons, hc, if_pos rfl]; omega
theorem dig_stop {l : List UInt8} {k : Nat} (h : ¬ k < l.length ∨ ∃ h : k < l.length, isDg l[k] = false) : digN (l.drop k) = 0 := by
  rcases h with h | ⟨h, hc⟩
  · rw [List.drop_eq_nil_of_le (by omega)]; try rfl
  · rw [List.drop_eq_getElem_cons h, digN_cons, hc]; try rfl
theorem dig_len {l : List UInt8} {k : Nat} (h : k ≤ l.length) : k + digN (l.drop k) ≤ l.length := by
  have := digN_le (l.drop k)
  simp at this; omega
theorem view_some {w : World} {g : Nat} {v : Value} {bs : List UInt8} (h : View w g v bs) (h0 : 0 < bs.length) : ∃ o cap, v = .slice (some ⟨g, o, none⟩) bs.length cap ∧ ∀ j (hj : j < bs.length), w.cell? ⟨g, o + j, none⟩ = some (.int .u8 (bs[j].toNat : Int)) := by
  obtain ⟨ao, cap, hv, h1, h2, hn0, off, h3, h4⟩ := h
  rw [h3 (by intro e; subst e; simp at h0)] at hv
  exact ⟨off, cap, hv, h4⟩
def fracB (l : List UInt8) (k : Nat) : Bool := match l.drop k with
  | c :: _ => c.toNat == 46
  | [] => false
def expB (l : List UInt8) (k : Nat) : Bool := match l.drop k with
  | c :: _ => c.toNat == 101 || c.toNat == 69
  | [] => false
def sgnB (l : List UInt8) (k : Nat) : Bool := match l.drop k with
  | c :: _ => c.toNat == 43 || c.toNat == 45
  | [] => false
set_option maxRecDepth 100000 in
set_option maxHeartbeats 4000000 in
theorem jnumber_any (v : Value) (l : List UInt8) (g : Nat) (w : World) (hv : View w g v l) (hm : l.length ≤ 100000000) :
    Calls Tryd.prog 65 #[v] w fun e w' => e = .returned (.int .i64 (jnumR l : Int)) ∧ w = w' := by
  by_cases h0 : 0 < l.length
  · obtain ⟨o, cap, rfl, hcell⟩ := view_some hv h0
    have HC := hid hcell
    have hnl := negN_le l
    obtain ⟨N, hN⟩ : ∃ N, N = negN l := ⟨_, rfl⟩
    have HNE := hid hN
    rw [← hN] at hnl
    clear hv hcell hN
    go_enter Tryd.func65, Tryd.ntmps65
    go_upto_region 2 with fail
    obtain ⟨nb, hnb⟩ : ∃ nb, nb = decide (N = 1) := ⟨_, rfl⟩
    have HNB := hid hnb
    clear hnb
    go_cut [15] (fun t wx => t = .bool nb ∧ w = wx)
    case first =>
      as_aux_lemma =>
      have hck := HC.out 0 h0
      have HN : Hid (N = if (l[0]).toNat = 45 then 1 else 0) := hid (by rw [HNE.out]; rcases l with _ | ⟨c, r⟩; simp at h0; rfl)
      generalize l[0] = c at *
      simp only [Nat.add_zero] at hck
      cases hc : ((c.toNat : Int) == 45) with
      | true =>
        have HF : Hid (nb = true) := hid (by rw [HNB.out, HN.out, if_pos (by simp at hc; omega)]; try rfl)
        go_wp2_with fail
        go_meet
        exact ⟨by rw [HF.out], rfl⟩
      | false =>
        have HF : Hid (nb = false) := hid (by rw [HNB.out, HN.out, if_neg (by simp at hc; omega)]; try rfl)
        go_wp2_with fail
        go_meet
        exact ⟨by rw [HF.out], rfl⟩
    case rest =>
      obtain ⟨rfl, rfl⟩ := hcut
      go_upto_if 15 with fail
      go_cut [3] (fun t wx => t = .int .i64 (N : Int) ∧ w = wx)
      case first =>
        as_aux_lemma =>
        rcases nb with _ | _
        · have HF : Hid (N = 0) := hid (by have := HNB.out; simp at this; omega)
          go_wp2_with fail
          go_meet
          exact ⟨by rw [HF.out]; try rfl, rfl⟩
        · have HF : Hid (N = 1) := hid (by have := HNB.out; simp at this; omega)
          go_wp2_with fail
          go_meet
          exact ⟨by rw [HF.out]; try rfl, rfl⟩
      case rest =>
        obtain ⟨rfl, rfl⟩ := hcut
        clear HNB
        go_upto_block 0 with fail
        obtain ⟨E, hE⟩ : ∃ E, E = N + digN (l.drop N) := ⟨_, rfl⟩
        have hEl : E ≤ l.length := by rw [hE]; exact dig_len (by omega)
        have hNE : N ≤ E := by omega
        have HEE := hid hE
        clear hE
        go_cut [3] (fun t wx => t = .int .i64 (E : Int) ∧ w = wx)
        case first =>
          as_aux_lemma =>
          go_wp2_with fail
          go_loopw [3] (fun t wx => ∃ k : Nat, k ≤ l.length ∧ t = .int .i64 (k : Int) ∧ k + digN (l.drop k) = E ∧ w = wx) (fun t _ => l.length - (intOf t).toNat)
          case atStart => exact ⟨N, by omega, rfl, HEE.out.symm, rfl⟩
          case round =>
            obtain ⟨k, hk, rfl, hx, rfl⟩ := hrel
            have HX := hid hx
            clear hx
            by_cases hlt : k < l.length
            · have hck := HC.out k hlt
              cases hd : isDg l[k] with
              | true =>
                have HS := hid (dig_go hlt hd)
                have hd2 := (dg_iff _).1 hd
                clear hd
                generalize l[k] = c at *
                go_wp2_with fail
                go_roundw
                case rel => exact ⟨k + 1, by omega, by go_num, by rw [← HS.out, HX.out], trivial⟩
                case measure => simp [intOf]; omega
              | false =>
                have HF : Hid (k = E) := hid (by have := dig_stop (.inr ⟨hlt, hd⟩); have := HX.out; omega)
                have hd2 : ¬ (48 ≤ (l[k]).toNat ∧ (l[k]).toNat ≤ 57) := fun h => by rw [(dg_iff _).2 h] at hd; cases hd
                clear hd
                generalize l[k] = c at *
                have hd3 : ¬ (48 ≤ (c.toNat : Int)) ∨ (48 ≤ (c.toNat : Int)) ∧ ¬ ((c.toNat : Int) ≤ 57) := by omega
                clear hd2
                rcases hd3 with h1 | ⟨h1, h2⟩
                all_goals
                  go_wp2_with fail
                  go_meet
                  exact ⟨by rw [HF.out], rfl⟩
            · have HF : Hid (k = E) := hid (by have := dig_stop (l := l) (.inl hlt); have := HX.out; omega)
              have hdk : decide ((k : Int) < (l.length : Int)) = false := by simp; omega
              go_wp2_with fail
              go_meet
              exact ⟨by rw [HF.out], rfl⟩
        case rest =>
          obtain ⟨rfl, rfl⟩ := hcut
          obtain ⟨z, hz⟩ : ∃ z, z = decide (digN (l.drop N) = 0 ∨ 1 < digN (l.drop N) ∧ (l.getD N 0).toNat = 48) := ⟨_, rfl⟩
          have HZ := hid hz
          have HDE : Hid (digN (l.drop N) = E - N) := hid (by rw [HEE.out]; omega)
          clear hz
          go_upto_region 7 with fail
          go_cut [54] (fun t wx => t = .bool z ∧ w = wx)
          case first =>
            as_aux_lemma =>
            by_cases h1 : E = N
            · have HF : Hid (z = true) := hid (by rw [HZ.out, HDE.out]; simp; omega)
              subst h1
              go_wp2_with fail
              go_meet
              exact ⟨by rw [HF.out], rfl⟩
            · have h1b : ((E : Int) == (N : Int)) = false := by simp; omega
              by_cases h2 : E ≤ N + 1
              · have HF : Hid (z = false) := hid (by rw [HZ.out, HDE.out]; simp; omega)
                have h2b : ¬ ((N : Int) + 1 < (E : Int)) := by omega
                go_wp2_with fail
                go_meet
                exact ⟨by rw [HF.out], rfl⟩
              · have hNl : N < l.length := by omega
                have hck := HC.out N hNl
                have HG : Hid (l.getD N 0 = l[N]) := hid (by simp [List.getD_eq_getElem?_getD, List.getElem?_eq_getElem hNl])
                rw [HG.out] at HZ
                generalize l[N] = c at *
                have h2b : (N : Int) + 1 < (E : Int) := by omega
                cases hc : ((c.toNat : Int) == 48) with
                | true =>
                  have HF : Hid (z = true) := hid (by rw [HZ.out, HDE.out]; simp at hc ⊢; omega)
                  go_wp2_with fail
                  go_meet
                  exact ⟨by rw [HF.out], rfl⟩
                | false =>
                  have HF : Hid (z = false) := hid (by rw [HZ.out, HDE.out]; simp at hc ⊢; omega)
                  go_wp2_with fail
                  go_meet
                  exact ⟨by rw [HF.out], rfl⟩
          case rest =>
            obtain ⟨rfl, rfl⟩ := hcut
            rcases z with _ | _
            · have hnz : ¬ (digN (l.drop N) = 0 ∨ 1 < digN (l.drop N) ∧ (l.getD N 0).toNat = 48) := by have := HZ.out; simpa using this
              have HJ : Hid (jnumR l = match fracR (l.drop E) with
                | none => 0
                | some f => match expR (l.drop (E + f)) with
                  | none => 0
                  | some e => E + f + e) := hid (by unfold jnumR; rw [← HNE.out, if_neg hnz, ← HEE.out]; try rfl)
              clear HZ hnz HDE
              as_aux_lemma =>
              go_upto_region 9 with fail
              obtain ⟨pb, hpb⟩ : ∃ pb, pb = fracB l E := ⟨_, rfl⟩
              have Hpb := hid hpb
              clear hpb
              go_cut [65] (fun t wx => t = .bool pb ∧ w = wx)
              case first =>
                as_aux_lemma =>
                by_cases hlt : E < l.length
                · have hck := HC.out _ hlt
                  have hdr := List.drop_eq_getElem_cons hlt
                  generalize l[E] = c at *
                  cases hc : ((c.toNat : Int) == 46) with
                  | true =>
                    have HF : Hid (pb = true) := hid (by rw [Hpb.out]; unfold fracB; rw [hdr]; simp at hc ⊢; omega)
                    clear hdr
                    go_wp2_with fail
                    go_meet
                    exact ⟨by rw [HF.out], rfl⟩
                  | false =>
                    have HF : Hid (pb = false) := hid (by rw [Hpb.out]; unfold fracB; rw [hdr]; simp at hc ⊢; omega)
                    clear hdr
                    go_wp2_with fail
                    go_meet
                    exact ⟨by rw [HF.out], rfl⟩
                · have HF : Hid (pb = false) := hid (by rw [Hpb.out]; unfold fracB; rw [List.drop_eq_nil_of_le (by omega)])
                  have hdk : decide ((E : Int) < (l.length : Int)) = false := by simp; omega
                  go_wp2_with fail
                  go_meet
                  exact ⟨by rw [HF.out], rfl⟩
              case rest =>
                obtain ⟨rfl, rfl⟩ := hcut
                go_upto_if 65 with fail
                go_cut [3] (fun t wx => ∃ F : Nat, fracR (l.drop E) = some (F - E) ∧ E ≤ F ∧ F ≤ l.length ∧ t = .int .i64 (F : Int) ∧ w = wx)
                case first =>
                  as_aux_lemma =>
                  rcases pb with _ | _
                  · have HF : Hid (fracR (l.drop E) = some (E - E)) := hid (by
                      have := Hpb.out
                      unfold fracB at this
                      rw [Nat.sub_self]
                      rcases hd : l.drop E with _ | ⟨c, r⟩
                      · rfl
                      · rw [hd] at this
                        rw [fracR_cons, if_neg (by simp at this; omega)])
                    go_wp2_with fail
                    go_meet
                    exact ⟨E, HF.out, Nat.le_refl _, hEl, rfl, rfl⟩
                  · have hlt : E < l.length := by
                      have := Hpb.out
                      unfold fracB at this
                      rcases Nat.lt_or_ge E l.length with h | h
                      · exact h
                      · rw [List.drop_eq_nil_of_le h] at this; simp at this
                    obtain ⟨E2, hE2⟩ : ∃ E2, E2 = E + 1 + digN (l.drop (E + 1)) := ⟨_, rfl⟩
                    have hEl2 : E2 ≤ l.length := by rw [hE2]; exact dig_len (by omega)
                    have hNE2 : E + 1 ≤ E2 := by omega
                    have HF : Hid (fracR (l.drop E) = if E2 = E + 1 then none else some (E2 - E)) := hid (by
                      have h1 := Hpb.out
                      unfold fracB at h1
                      have hdr := List.drop_eq_getElem_cons hlt
                      rw [hdr] at h1 ⊢
                      rw [fracR_cons, if_pos (by simp at h1; omega)]
                      by_cases h0 : E2 = E + 1
                      · rw [if_pos h0, if_pos (by omega)]
                      · rw [if_neg h0, if_neg (by omega)]; congr 1; omega)
                    have HEE2 := hid hE2
                    clear hE2
                    go_upto_block 2 with fail
                    go_cut [3] (fun t wx => t = .int .i64 (E2 : Int) ∧ w = wx)
                    case first =>
                      as_aux_lemma =>
                      go_wp2_with fail
                      go_loopw [3] (fun t wx => ∃ k : Nat, k ≤ l.length ∧ t = .int .i64 (k : Int) ∧ k + digN (l.drop k) = E2 ∧ w = wx) (fun t _ => l.length - (intOf t).toNat)
                      case atStart => exact ⟨E + 1, by omega, by first | rfl | go_num, HEE2.out.symm, rfl⟩
                      case round =>
                        obtain ⟨k, hk, rfl, hx, rfl⟩ := hrel
                        have HX := hid hx
                        clear hx
                        by_cases hlt : k < l.length
                        · have hck := HC.out k hlt
                          cases hd : isDg l[k] with
                          | true =>
                            have HS := hid (dig_go hlt hd)
                            have hd2 := (dg_iff _).1 hd
                            clear hd
                            generalize l[k] = c at *
                            go_wp2_with fail
                            go_roundw
                            case rel => exact ⟨k + 1, by omega, by go_num, by rw [← HS.out, HX.out], trivial⟩
                            case measure => simp [intOf]; omega
                          | false =>
                            have HF : Hid (k = E2) := hid (by have := dig_stop (.inr ⟨hlt, hd⟩); have := HX.out; omega)
                            have hd2 : ¬ (48 ≤ (l[k]).toNat ∧ (l[k]).toNat ≤ 57) := fun h => by rw [(dg_iff _).2 h] at hd; cases hd
                            clear hd
                            generalize l[k] = c at *
                            have hd3 : ¬ (48 ≤ (c.toNat : Int)) ∨ (48 ≤ (c.toNat : Int)) ∧ ¬ ((c.toNat : Int) ≤ 57) := by omega
                            clear hd2
                            rcases hd3 with h1 | ⟨h1, h2⟩
                            all_goals
                              go_wp2_with fail
                              go_meet
                              exact ⟨by rw [HF.out], rfl⟩
                        · have HF : Hid (k = E2) := hid (by have := dig_stop (l := l) (.inl hlt); have := HX.out; omega)
                          have hdk : decide ((k : Int) < (l.length : Int)) = false := by simp; omega
                          go_wp2_with fail
                          go_meet
                          exact ⟨by rw [HF.out], rfl⟩
                    case rest =>
                      obtain ⟨rfl, rfl⟩ := hcut
                      by_cases h0 : E2 = E + 1
                      · have HF2 : Hid (jnumR l = 0) := hid (by rw [HJ.out, HF.out, if_pos h0])
                        have h0b : ((E2 : Int) == (E : Int) + 1) = true := by simp; omega
                        clear h0
                        go_wp2_with fail
                        go_ret
                        exact ⟨by rw [HF2.out]; try rfl, rfl⟩
                      · have HF2 : Hid (fracR (l.drop E) = some (E2 - E)) := hid (by rw [HF.out, if_neg h0])
                        have h0b : ((E2 : Int) == (E : Int) + 1) = false := by simp; omega
                        clear h0
                        go_wp2_with fail
                        go_meet
                        exact ⟨E2, HF2.out, by omega, hEl2, rfl, rfl⟩
                case rest =>
                  obtain ⟨F, hfr, hEF, hFl, rfl, rfl⟩ := hcut
                  have HJ2 : Hid (jnumR l = match expR (l.drop F) with
                    | none => 0
                    | some e => F + e) := hid (by rw [HJ.out, hfr]; simp only; rw [show E + (F - E) = F by omega])
                  clear hfr
                  as_aux_lemma =>
                  go_upto_region 16 with fail
                  obtain ⟨eb, heb⟩ : ∃ eb, eb = expB l F := ⟨_, rfl⟩
                  have Heb := hid heb
                  clear heb
                  go_cut [109] (fun t wx => t = .bool eb ∧ w = wx)
                  case first =>
                    as_aux_lemma =>
                    by_cases hlt : F < l.length
                    · have hck := HC.out _ hlt
                      have hdr := List.drop_eq_getElem_cons hlt
                      generalize l[F] = c at *
                      cases hc : ((c.toNat : Int) == 101) with
                      | true =>
                        have HF : Hid (eb = true) := hid (by rw [Heb.out]; unfold expB; rw [hdr]; simp at hc ⊢; omega)
                        clear hdr
                        go_wp2_with fail
                        go_meet
                        exact ⟨by rw [HF.out], rfl⟩
                      | false =>
                        cases hc2 : ((c.toNat : Int) == 69) with
                        | true =>
                          have HF : Hid (eb = true) := hid (by rw [Heb.out]; unfold expB; rw [hdr]; simp at hc hc2 ⊢; omega)
                          clear hdr
                          go_wp2_with fail
                          go_meet
                          exact ⟨by rw [HF.out], rfl⟩
                        | false =>
                          have HF : Hid (eb = false) := hid (by rw [Heb.out]; unfold expB; rw [hdr]; simp at hc hc2 ⊢; omega)
                          clear hdr
                          go_wp2_with fail
                          go_meet
                          exact ⟨by rw [HF.out], rfl⟩
                    · have HF : Hid (eb = false) := hid (by rw [Heb.out]; unfold expB; rw [List.drop_eq_nil_of_le (by omega)])
                      have hdk : decide ((F : Int) < (l.length : Int)) = false := by simp; omega
                      go_wp2_with fail
                      go_meet
                      exact ⟨by rw [HF.out], rfl⟩
                  case rest =>
                    obtain ⟨rfl, rfl⟩ := hcut
                    rcases eb with _ | _
                    · have HF : Hid (jnumR l = F) := hid (by
                        have := Heb.out
                        unfold expB at this
                        rw [HJ2.out]
                        rw [expR_no (fun c r hd => by rw [hd] at this; simp at this; omega)]
                        rfl)
                      go_wp2_with fail
                      go_ret
                      exact ⟨by rw [HF.out]; try rfl, rfl⟩
                    · have hlt : F < l.length := by
                        have := Heb.out
                        unfold expB at this
                        rcases Nat.lt_or_ge F l.length with h | h
                        · exact h
                        · rw [List.drop_eq_nil_of_le h] at this; simp at this
                      have HJ3 : Hid (jnumR l = if digN ((l.drop (F + 1)).drop (sgnN (l.drop (F + 1)))) = 0 then 0 else F + (1 + sgnN (l.drop (F + 1)) + digN ((l.drop (F + 1)).drop (sgnN (l.drop (F + 1)))))) := hid (by
                        have h1 := Heb.out
                        unfold expB at h1
                        rw [HJ2.out]
                        have hdr := List.drop_eq_getElem_cons hlt
                        rw [hdr] at h1 ⊢
                        rw [expR_cons, if_pos (by simp at h1; omega)]
                        by_cases h0 : digN ((l.drop (F + 1)).drop (sgnN (l.drop (F + 1)))) = 0
                        · rw [if_pos h0, if_pos h0]
                        · rw [if_neg h0, if_neg h0])
                      as_aux_lemma =>
                      go_upto_region 18 with fail
                      obtain ⟨sb, hsb⟩ : ∃ sb, sb = sgnB l (F + 1) := ⟨_, rfl⟩
                      have Hsb := hid hsb
                      clear hsb
                      go_cut [129] (fun t wx => t = .bool sb ∧ w = wx)
                      case first =>
                        as_aux_lemma =>
                        by_cases hlt2 : F + 1 < l.length
                        · have hck := HC.out _ hlt2
                          have hdr := List.drop_eq_getElem_cons hlt2
                          generalize l[F + 1] = c at *
                          cases hc : ((c.toNat : Int) == 43) with
                          | true =>
                            have HF : Hid (sb = true) := hid (by rw [Hsb.out]; unfold sgnB; rw [hdr]; simp at hc ⊢; omega)
                            clear hdr
                            go_wp2_with fail
                            go_meet
                            exact ⟨by rw [HF.out], rfl⟩
                          | false =>
                            cases hc2 : ((c.toNat : Int) == 45) with
                            | true =>
                              have HF : Hid (sb = true) := hid (by rw [Hsb.out]; unfold sgnB; rw [hdr]; simp at hc hc2 ⊢; omega)
                              clear hdr
                              go_wp2_with fail
                              go_meet
                              exact ⟨by rw [HF.out], rfl⟩
                            | false =>
                              have HF : Hid (sb = false) := hid (by rw [Hsb.out]; unfold sgnB; rw [hdr]; simp at hc hc2 ⊢; omega)
                              clear hdr
                              go_wp2_with fail
                              go_meet
                              exact ⟨by rw [HF.out], rfl⟩
                        · have HF : Hid (sb = false) := hid (by rw [Hsb.out]; unfold sgnB; rw [List.drop_eq_nil_of_le (by omega)])
                          have hdk : decide ((F : Int) + 1 < (l.length : Int)) = false := by simp; omega
                          go_wp2_with fail
                          go_meet
                          exact ⟨by rw [HF.out], rfl⟩
                      case rest =>
                        obtain ⟨rfl, rfl⟩ := hcut
                        obtain ⟨S, hS⟩ : ∃ S, S = F + 1 + sgnN (l.drop (F + 1)) := ⟨_, rfl⟩
                        have hsn : S = F + 1 + (if sb = true then 1 else 0) ∧ S ≤ l.length := by
                          have h1 := Hsb.out
                          unfold sgnB at h1
                          rw [hS]
                          rcases hd : l.drop (F + 1) with _ | ⟨c, r⟩
                          · rw [hd] at h1
                            simp only at h1
                            rw [h1]
                            exact ⟨rfl, by show F + 1 + 0 ≤ _; omega⟩
                          · rw [hd] at h1
                            simp only at h1
                            have hl := congrArg List.length hd
                            simp at hl
                            have hg : sgnN (c :: r) = if c.toNat = 43 ∨ c.toNat = 45 then 1 else 0 := rfl
                            rw [hg, h1]
                            by_cases hc : c.toNat = 43 ∨ c.toNat = 45
                            · rw [if_pos hc, if_pos (by simpa using hc)]; omega
                            · rw [if_neg hc, if_neg (by simpa using hc)]; omega
                        have hSl := hsn.2
                        have HSS := hid hsn.1
                        have HJ4 : Hid (jnumR l = if digN (l.drop S) = 0 then 0 else S + digN (l.drop S)) := hid (by
                          rw [HJ3.out, List.drop_drop, ← hS]
                          by_cases h0 : digN (l.drop S) = 0
                          · rw [if_pos h0, if_pos h0]
                          · rw [if_neg h0, if_neg h0]; omega)
                        clear hS hsn HJ3
                        as_aux_lemma =>
                        go_upto_if 129 with fail
                        go_cut [3] (fun t wx => t = .int .i64 (S : Int) ∧ w = wx)
                        case first =>
                          as_aux_lemma =>
                          rcases sb with _ | _
                          · have HF : Hid (S = F + 1) := hid (by rw [HSS.out]; try rfl)
                            go_wp2_with fail
                            go_meet
                            exact ⟨by rw [HF.out]; first | rfl | go_num, rfl⟩
                          · have HF : Hid (S = F + 1 + 1) := hid (by rw [HSS.out]; try rfl)
                            go_wp2_with fail
                            go_meet
                            exact ⟨by rw [HF.out]; first | rfl | go_num, rfl⟩
                        case rest =>
                          obtain ⟨rfl, rfl⟩ := hcut
                          clear HSS
                          obtain ⟨E3, hE3⟩ : ∃ E3, E3 = S + digN (l.drop S) := ⟨_, rfl⟩
                          have hEl3 : E3 ≤ l.length := by rw [hE3]; exact dig_len (by omega)
                          have hNE3 : S ≤ E3 := by omega
                          have HF : Hid (jnumR l = if E3 = S then 0 else E3) := hid (by
                            rw [HJ4.out, ← hE3]
                            by_cases h0 : E3 = S
                            · rw [if_pos h0, if_pos (by omega)]
                            · rw [if_neg h0, if_neg (by omega)])
                          have HEE3 := hid hE3
                          clear hE3
                          as_aux_lemma =>
                          go_upto_block 4 with fail
                          go_cut [3] (fun t wx => t = .int .i64 (E3 : Int) ∧ w = wx)
                          case first =>
                            as_aux_lemma =>
                            go_wp2_with fail
                            go_loopw [3] (fun t wx => ∃ k : Nat, k ≤ l.length ∧ t = .int .i64 (k : Int) ∧ k + digN (l.drop k) = E3 ∧ w = wx) (fun t _ => l.length - (intOf t).toNat)
                            case atStart => exact ⟨S, by omega, by first | rfl | go_num, HEE3.out.symm, rfl⟩
                            case round =>
                              obtain ⟨k, hk, rfl, hx, rfl⟩ := hrel
                              have HX := hid hx
                              clear hx
                              by_cases hlt : k < l.length
                              · have hck := HC.out k hlt
                                cases hd : isDg l[k] with
                                | true =>
                                  have HS := hid (dig_go hlt hd)
                                  have hd2 := (dg_iff _).1 hd
                                  clear hd
                                  generalize l[k] = c at *
                                  go_wp2_with fail
                                  go_roundw
                                  case rel => exact ⟨k + 1, by omega, by go_num, by rw [← HS.out, HX.out], trivial⟩
                                  case measure => simp [intOf]; omega
                                | false =>
                                  have HF : Hid (k = E3) := hid (by have := dig_stop (.inr ⟨hlt, hd⟩); have := HX.out; omega)
                                  have hd2 : ¬ (48 ≤ (l[k]).toNat ∧ (l[k]).toNat ≤ 57) := fun h => by rw [(dg_iff _).2 h] at hd; cases hd
                                  clear hd
                                  generalize l[k] = c at *
                                  have hd3 : ¬ (48 ≤ (c.toNat : Int)) ∨ (48 ≤ (c.toNat : Int)) ∧ ¬ ((c.toNat : Int) ≤ 57) := by omega
                                  clear hd2
                                  rcases hd3 with h1 | ⟨h1, h2⟩
                                  all_goals
                                    go_wp2_with fail
                                    go_meet
                                    exact ⟨by rw [HF.out], rfl⟩
                              · have HF : Hid (k = E3) := hid (by have := dig_stop (l := l) (.inl hlt); have := HX.out; omega)
                                have hdk : decide ((k : Int) < (l.length : Int)) = false := by simp; omega
                                go_wp2_with fail
                                go_meet
                                exact ⟨by rw [HF.out], rfl⟩
                          case rest =>
                            obtain ⟨rfl, rfl⟩ := hcut
                            by_cases h0 : E3 = S
                            · have HF2 : Hid (jnumR l = 0) := hid (by rw [HF.out, if_pos h0])
                              have h0b : ((E3 : Int) == (S : Int)) = true := by simp; omega
                              clear h0
                              go_wp2_with fail
                              go_ret
                              exact ⟨by rw [HF2.out]; try rfl, rfl⟩
                            · have HF2 : Hid (jnumR l = E3) := hid (by rw [HF.out, if_neg h0])
                              have h0b : ((E3 : Int) == (S : Int)) = false := by simp; omega
                              clear h0
                              go_wp2_with fail
                              go_ret
                              exact ⟨by rw [HF2.out]; try rfl, rfl⟩
            · have hnz : (digN (l.drop N) = 0 ∨ 1 < digN (l.drop N) ∧ (l.getD N 0).toNat = 48) := by have := HZ.out; simpa using this
              have HF : Hid (jnumR l = 0) := hid (by unfold jnumR; rw [← HNE.out, if_pos hnz])
              clear HZ hnz
              go_wp2_with fail
              go_ret
              exact ⟨by rw [HF.out]; try rfl, rfl⟩
  · have hl : l = [] := List.eq_nil_of_length_eq_zero (by omega)
    subst hl
    obtain ⟨ao, cap, rfl⟩ := hv.slice
    go_enter Tryd.func65, Tryd.ntmps65
    go_wp2_with fail
    go_loopw [3] (fun t wx => t = .int .i64 0 ∧ w = wx) (fun _ _ => 0)
    case atStart => exact ⟨rfl, rfl⟩
    case round =>
      obtain ⟨rfl, rfl⟩ := hrel
      go_wp2_with fail
      go_ret
      exact ⟨rfl, rfl⟩
end Go.Proofs.YtjkmmhnhhiopiaaDoor

namespace Go.Proofs.YtjkmmhnhhiopiaaDoor
open Go.ChangeShapes Go.WideShapes Go.ChangeAt Go.RowKit

def mixB (c : UInt8) : Bool := isDg c || c.toNat == 46 || c.toNat == 45
theorem mixN_cons (c : UInt8) (l : List UInt8) : mixN (c :: l) = if mixB c then mixN l + 1 else 0 := rfl
theorem mix_go {l : List UInt8} {k : Nat} (h : k < l.length) (hc : mixB l[k] = true) : k + mixN (l.drop k) = k + 1 + mixN (l.drop (k + 1)) := by
  rw [List.drop_eq_getElem_cons h, mixN_cons, hc, if_pos rfl]; omega
theorem mix_stop {l : List UInt8} {k : Nat} (h : ¬ k < l.length ∨ ∃ h : k < l.length, mixB l[k] = false) : mixN (l.drop k) = 0 := by
  rcases h with h | ⟨h, hc⟩
  · rw [List.drop_eq_nil_of_le (by omega)]; try rfl
  · rw [List.drop_eq_getElem_cons h, mixN_cons, hc]; try rfl
theorem mixN_le : ∀ l, mixN l ≤ l.length
  | [] => Nat.le_refl _
  | c :: l => by rw [mixN_cons]; split <;> simp; exact mixN_le l
theorem mixB_yes {c : UInt8} (h : mixB c = true) : (48 ≤ (c.toNat : Int) ∧ (c.toNat : Int) ≤ 57) ∨ (¬ (48 ≤ (c.toNat : Int)) ∧ ((c.toNat : Int) == 46) = true) ∨ (¬ (48 ≤ (c.toNat : Int)) ∧ ((c.toNat : Int) == 46) = false ∧ ((c.toNat : Int) == 45) = true) := by
  unfold mixB at h
  cases hd : isDg c with
  | true => have := (dg_iff c).1 hd; left; omega
  | false => rw [hd] at h; simp at h ⊢; omega
theorem mixB_no {c : UInt8} (h : mixB c = false) : (¬ (48 ≤ (c.toNat : Int)) ∧ ((c.toNat : Int) == 46) = false ∧ ((c.toNat : Int) == 45) = false) ∨ (48 ≤ (c.toNat : Int) ∧ ¬ ((c.toNat : Int) ≤ 57) ∧ ((c.toNat : Int) == 46) = false ∧ ((c.toNat : Int) == 45) = false) := by
  unfold mixB at h
  simp only [Bool.or_eq_false_iff] at h
  have hd : ¬ (48 ≤ c.toNat ∧ c.toNat ≤ 57) := fun h' => by have := (dg_iff c).2 h'; rw [this] at h; cases h.1.1
  simp at h ⊢
  omega
set_option maxRecDepth 100000 in
set_option maxHeartbeats 4000000 in
theorem half_any (v : Value) (l : List UInt8) (g : Nat) (w : World) (hv : View w g v l) (hm : l.length ≤ 100000000) :
    Calls Tryd.prog 67 #[v] w fun e w' => e = .returned (.bool (halfR l)) ∧ w = w' := by
  by_cases h0 : 0 < l.length
  · obtain ⟨o, cap, rfl, hcell⟩ := view_some hv h0
    have HC := hid hcell
    obtain ⟨M, hM⟩ : ∃ M, M = mixN l := ⟨_, rfl⟩
    have hMl : M ≤ l.length := by rw [hM]; exact mixN_le l
    have HMM := hid hM
    clear hv hcell hM
    have HR : Hid (halfR l = match l.drop M with
      | [] => false
      | c :: r => if M = 0 ∨ ¬ (c.toNat = 101 ∨ c.toNat = 69) then false else digN (r.drop (sgnN r)) == 0) := hid (by unfold halfR; rw [HMM.out]; try rfl)
    go_enter Tryd.func67, Tryd.ntmps67
    go_upto_block 0 with fail
    go_cut [3] (fun t wx => t = .int .i64 (M : Int) ∧ w = wx)
    case first =>
      as_aux_lemma =>
      go_wp2_with fail
      go_loopw [3] (fun t wx => ∃ k : Nat, k ≤ l.length ∧ t = .int .i64 (k : Int) ∧ k + mixN (l.drop k) = M ∧ w = wx) (fun t _ => l.length - (intOf t).toNat)
      case atStart => exact ⟨0, Nat.zero_le _, rfl, by rw [Nat.zero_add]; exact HMM.out.symm, rfl⟩
      case round =>
        obtain ⟨k, hk, rfl, hx, rfl⟩ := hrel
        have HX := hid hx
        clear hx
        by_cases hlt : k < l.length
        · have hck := HC.out k hlt
          cases hd : mixB l[k] with
          | true =>
            have HS := hid (mix_go hlt hd)
            have hd2 := mixB_yes hd
            clear hd
            generalize l[k] = c at *
            rcases hd2 with ⟨h1, h2⟩ | ⟨h1, h2⟩ | ⟨h1, h2, h3⟩
            all_goals
              go_wp2_with fail
              go_roundw
              case rel => exact ⟨k + 1, by omega, by go_num, by rw [← HS.out, HX.out], trivial⟩
              case measure => simp [intOf]; omega
          | false =>
            have HF : Hid (k = M) := hid (by have := mix_stop (.inr ⟨hlt, hd⟩); have := HX.out; omega)
            have hd2 := mixB_no hd
            clear hd
            generalize l[k] = c at *
            rcases hd2 with ⟨h1, h2, h3⟩ | ⟨h1, h2, h3, h4⟩
            all_goals
              go_wp2_with fail
              go_meet
              exact ⟨by rw [HF.out], rfl⟩
        · have HF : Hid (k = M) := hid (by have := mix_stop (l := l) (.inl hlt); have := HX.out; omega)
          have hdk : decide ((k : Int) < (l.length : Int)) = false := by simp; omega
          go_wp2_with fail
          go_meet
          exact ⟨by rw [HF.out], rfl⟩
    case rest =>
      obtain ⟨rfl, rfl⟩ := hcut
      clear HMM
      by_cases hz : M = 0
      · have HF : Hid (halfR l = false) := hid (by
          rw [HR.out]
          rcases l.drop M with _ | ⟨c, r⟩
          · rfl
          · simp only; rw [if_pos (.inl hz)])
        subst hz
        go_wp2_with fail
        go_ret
        exact ⟨by rw [HF.out]; try rfl, rfl⟩
      · have hzb : ((M : Int) == 0) = false := by simp; omega
        by_cases hlt : M < l.length
        · have hlb : ((M : Int) == (l.length : Int)) = false := by simp; omega
          have hck := HC.out _ hlt
          have hdr := List.drop_eq_getElem_cons hlt
          rw [hdr] at HR
          generalize l[M] = c at *
          by_cases hce : c.toNat = 101 ∨ c.toNat = 69
          · have HR2 : Hid (halfR l = (digN ((l.drop (M + 1)).drop (sgnN (l.drop (M + 1)))) == 0)) := hid (by rw [HR.out]; simp only; rw [if_neg (by omega)])
            have hc2 : ((c.toNat : Int) != 101) = false ∨ ((c.toNat : Int) != 101) = true ∧ ((c.toNat : Int) != 69) = false := by simp; omega
            clear HR hdr hce
            have hM1 : M + 1 ≤ l.length := hlt
            go_upto_region 4 with fail
            go_cut [59] (fun t wx => t = .bool false ∧ w = wx)
            case first =>
              as_aux_lemma =>
              rcases hc2 with hc2 | ⟨hc2, hc3⟩
              all_goals
                go_wp2_with fail
                go_meet
                exact ⟨rfl, rfl⟩
            case rest =>
              obtain ⟨rfl, rfl⟩ := hcut
              clear hc2 hck
              go_upto_region 7 with fail
              obtain ⟨sb, hsb⟩ : ∃ sb, sb = sgnB l (M + 1) := ⟨_, rfl⟩
              have Hsb := hid hsb
              clear hsb
              go_cut [79] (fun t wx => t = .bool sb ∧ w = wx)
              case first =>
                as_aux_lemma =>
                by_cases hlt2 : M + 1 < l.length
                · have hck := HC.out _ hlt2
                  have hdr := List.drop_eq_getElem_cons hlt2
                  generalize l[M + 1] = c at *
                  cases hc : ((c.toNat : Int) == 43) with
                  | true =>
                    have HF : Hid (sb = true) := hid (by rw [Hsb.out]; unfold sgnB; rw [hdr]; simp at hc ⊢; omega)
                    clear hdr
                    go_wp2_with fail
                    go_meet
                    exact ⟨by rw [HF.out], rfl⟩
                  | false =>
                    cases hc2 : ((c.toNat : Int) == 45) with
                    | true =>
                      have HF : Hid (sb = true) := hid (by rw [Hsb.out]; unfold sgnB; rw [hdr]; simp at hc hc2 ⊢; omega)
                      clear hdr
                      go_wp2_with fail
                      go_meet
                      exact ⟨by rw [HF.out], rfl⟩
                    | false =>
                      have HF : Hid (sb = false) := hid (by rw [Hsb.out]; unfold sgnB; rw [hdr]; simp at hc hc2 ⊢; omega)
                      clear hdr
                      go_wp2_with fail
                      go_meet
                      exact ⟨by rw [HF.out], rfl⟩
                · have HF : Hid (sb = false) := hid (by rw [Hsb.out]; unfold sgnB; rw [List.drop_eq_nil_of_le (by omega)])
                  have hdk : decide ((M : Int) + 1 < (l.length : Int)) = false := by simp; omega
                  go_wp2_with fail
                  go_meet
                  exact ⟨by rw [HF.out], rfl⟩
              case rest =>
                obtain ⟨rfl, rfl⟩ := hcut
                obtain ⟨S, hS⟩ : ∃ S, S = M + 1 + sgnN (l.drop (M + 1)) := ⟨_, rfl⟩
                have hsn : S = M + 1 + (if sb = true then 1 else 0) ∧ S ≤ l.length := by
                  have h1 := Hsb.out
                  unfold sgnB at h1
                  rw [hS]
                  rcases hd : l.drop (M + 1) with _ | ⟨c, r⟩
                  · rw [hd] at h1
                    simp only at h1
                    rw [h1]
                    exact ⟨rfl, by show M + 1 + 0 ≤ _; omega⟩
                  · rw [hd] at h1
                    simp only at h1
                    have hl := congrArg List.length hd
                    simp at hl
                    have hg : sgnN (c :: r) = if c.toNat = 43 ∨ c.toNat = 45 then 1 else 0 := rfl
                    rw [hg, h1]
                    by_cases hc : c.toNat = 43 ∨ c.toNat = 45
                    · rw [if_pos hc, if_pos (by simpa using hc)]; omega
                    · rw [if_neg hc, if_neg (by simpa using hc)]; omega
                have hSl := hsn.2
                have HSS := hid hsn.1
                have HF : Hid (halfR l = (digN (l.drop S) == 0)) := hid (by rw [HR2.out, List.drop_drop, ← hS])
                clear hS hsn HR2
                go_upto_if 79 with fail
                go_cut [3] (fun t wx => t = .int .i64 (S : Int) ∧ w = wx)
                case first =>
                  rcases sb with _ | _
                  · have HF : Hid (S = M + 1) := hid (by rw [HSS.out]; try rfl)
                    go_wp2_with fail
                    go_meet
                    exact ⟨by rw [HF.out]; first | rfl | go_num, rfl⟩
                  · have HF : Hid (S = M + 1 + 1) := hid (by rw [HSS.out]; try rfl)
                    go_wp2_with fail
                    go_meet
                    exact ⟨by rw [HF.out]; first | rfl | go_num, rfl⟩
                case rest =>
                  obtain ⟨rfl, rfl⟩ := hcut
                  clear HSS
                  by_cases hlt3 : S < l.length
                  · have hck := HC.out _ hlt3
                    have hlb2 : ((S : Int) == (l.length : Int)) = false := by simp; omega
                    have hdr := List.drop_eq_getElem_cons hlt3
                    rw [hdr] at HF
                    generalize l[S] = c at *
                    clear hdr
                    cases hd : isDg c with
                    | true =>
                      have hd2 := (dg_iff c).1 hd
                      have HF2 : Hid (halfR l = false) := hid (by rw [HF.out, digN_cons, hd]; simp)
                      clear hd
                      go_wp2_with fail
                      go_ret
                      refine ⟨?_, rfl⟩
                      rw [HF2.out]
                      refine ret_bool ?_
                      simp
                      omega
                    | false =>
                      have hd2 : ¬ (48 ≤ c.toNat ∧ c.toNat ≤ 57) := fun h => by rw [(dg_iff c).2 h] at hd; cases hd
                      have HF2 : Hid (halfR l = true) := hid (by rw [HF.out, digN_cons, hd]; simp)
                      have hd3 : (c.toNat : Int) < 48 ∨ ¬ ((c.toNat : Int) < 48) ∧ 57 < (c.toNat : Int) := by omega
                      clear hd hd2
                      rcases hd3 with h1 | ⟨h1, h2⟩
                      all_goals
                        go_wp2_with fail
                        go_ret
                        exact ⟨by rw [HF2.out]; try rfl, rfl⟩
                  · have hlb2 : ((S : Int) == (l.length : Int)) = true := by simp; omega
                    have HF2 : Hid (halfR l = true) := hid (by rw [HF.out, List.drop_eq_nil_of_le (by omega)]; try rfl)
                    go_wp2_with fail
                    go_ret
                    exact ⟨by rw [HF2.out]; try rfl, rfl⟩
          · have HF : Hid (halfR l = false) := hid (by rw [HR.out]; simp only; rw [if_pos (.inr hce)])
            have hc1 : ((c.toNat : Int) != 101) = true := by simp; omega
            have hc2 : ((c.toNat : Int) != 69) = true := by simp; omega
            clear HR hdr hce
            go_wp2_with fail
            go_ret
            exact ⟨by rw [HF.out]; try rfl, rfl⟩
        · have hlb : ((M : Int) == (l.length : Int)) = true := by simp; omega
          have HF : Hid (halfR l = false) := hid (by rw [HR.out, List.drop_eq_nil_of_le (by omega)])
          go_wp2_with fail
          go_ret
          exact ⟨by rw [HF.out]; try rfl, rfl⟩
  · have hl : l = [] := List.eq_nil_of_length_eq_zero (by omega)
    subst hl
    obtain ⟨ao, cap, rfl⟩ := hv.slice
    go_enter Tryd.func67, Tryd.ntmps67
    go_wp2_with fail
    go_loopw [3] (fun t wx => t = .int .i64 0 ∧ w = wx) (fun _ _ => 0)
    case atStart => exact ⟨rfl, rfl⟩
    case round =>
      obtain ⟨rfl, rfl⟩ := hrel
      go_wp2_with fail
      go_ret
      exact ⟨rfl, rfl⟩
end Go.Proofs.YtjkmmhnhhiopiaaDoor
