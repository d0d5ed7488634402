/-
 The package's reader of the text form, as plain functions: blanks and remarks, names, numbers, strings one behind the other, the next token, Read.
-/
import Derived.Test.YtgdnpnipahegaaaGreatDoorJB
namespace Go.Proofs.YtgdnpnipahegaaaGreatDoor

def blankT (c : UInt8) : Bool := c.toNat == 32 || c.toNat == 10 || c.toNat == 13 || c.toNat == 9
def skT : Bool → List UInt8 → Nat
 | _, [] => 0
 | true, c :: l => skT (c.toNat != 10) l + 1
 | false, c :: l => if blankT c then skT false l + 1 else if c.toNat = 35 then skT true l + 1 else 0
theorem skT_le : ∀ (b : Bool) (l : List UInt8), skT b l ≤ l.length
 | _, [] => by simp [skT]
 | true, c :: l => by unfold skT; have := skT_le (c.toNat != 10) l; simp; omega
 | false, c :: l => by
  unfold skT
  split
  ·have := skT_le false l; simp; omega
  ·split
   ·have := skT_le true l; simp; omega
   ·exact Nat.zero_le _
theorem skT_false (c : UInt8) (l : List UInt8) : skT false (c :: l) = if blankT c then skT false l + 1 else if c.toNat = 35 then skT true l + 1 else 0 := by rw [skT]
theorem skT_true (c : UInt8) (l : List UInt8) : skT true (c :: l) = skT (c.toNat != 10) l + 1 := by rw [skT]
theorem skT_nil (b : Bool) : skT b [] = 0 := by cases b <;> rfl

def letT (c : UInt8) : Bool := c.toNat == 95 || decide (97 ≤ c.toNat) && decide (c.toNat ≤ 122) || decide (65 ≤ c.toNat) && decide (c.toNat ≤ 90)
def idC (c : UInt8) : Bool := letT c || isDg c
def delC (c : UInt8) : Bool := !(c.toNat == 45 || (c.toNat == 43 || (c.toNat == 46 || (c.toNat == 95 || (decide (97 ≤ c.toNat) && decide (c.toNat ≤ 122) || (decide (65 ≤ c.toNat) && decide (c.toNat ≤ 90) || decide (48 ≤ c.toNat) && decide (c.toNat ≤ 57)))))))
def endT : List UInt8 → Bool
 | [] => true
 | c :: _ => delC c
def identP : List UInt8 → Nat
 | [] => 0
 | c :: r => if letT c && endT (r.drop (runN idC r)) then 1 + runN idC r else 0
def identT (neg : Bool) : List UInt8 → Nat
 | [] => 0
 | c :: r => if neg && c.toNat == 45 then (if identP r = 0 then 0 else 1 + identP r) else identP (c :: r)
theorem identP_cons (c : UInt8) (r : List UInt8) : identP (c :: r) = if letT c && endT (r.drop (runN idC r)) then 1 + runN idC r else 0 := rfl
theorem identT_cons (neg : Bool) (c : UInt8) (r : List UInt8) : identT neg (c :: r) = if neg && c.toNat == 45 then (if identP r = 0 then 0 else 1 + identP r) else identP (c :: r) := rfl
theorem identP_le (l : List UInt8) : identP l ≤ l.length := by
 cases l with
 | nil => exact Nat.le_refl _
 | cons c r =>
  have := runN_le idC r
  rw [identP_cons]
  split <;> simp
  omega
theorem identT_le (neg : Bool) (l : List UInt8) : identT neg l ≤ l.length := by
 cases l with
 | nil => exact Nat.le_refl _
 | cons c r =>
  have := identP_le r
  have := identP_le (c :: r)
  rw [identT_cons]
  split
  ·split <;> simp
   omega
  ·omega

structure NT where
 kind : Nat
 neg : Bool
 size : Nat
 sep : Nat
def nFrac (kind : Nat) : List UInt8 → Option (Nat × Nat)
 | [] => some (kind, 0)
 | c :: r => if c.toNat = 46 then (if r = [] ∧ kind = 4 then none else some (4, 1 + runN isDg r)) else some (kind, 0)
def isE (c : UInt8) : Bool := c.toNat == 101 || c.toNat == 69
def isF (c : UInt8) : Bool := c.toNat == 102 || c.toNat == 70
def isPM (c : UInt8) : Bool := c.toNat == 43 || c.toNat == 45
def nExp (kind : Nat) : List UInt8 → Option (Nat × Nat)
 | c :: d :: r => if isE c then (if isPM d then (if r = [] then none else some (4, 2 + runN isDg r)) else some (4, 1 + runN isDg (d :: r))) else some (kind, 0)
 | _ => some (kind, 0)
def nSuf (kind : Nat) : List UInt8 → Nat × Nat
 | [] => (kind, 0)
 | c :: _ => if isF c then (4, 1) else (kind, 0)
theorem nFrac_cons (kind : Nat) (c : UInt8) (r : List UInt8) : nFrac kind (c :: r) = if c.toNat = 46 then (if r = [] ∧ kind = 4 then none else some (4, 1 + runN isDg r)) else some (kind, 0) := rfl
theorem nExp_two (kind : Nat) (c d : UInt8) (r : List UInt8) : nExp kind (c :: d :: r) = if isE c then (if isPM d then (if r = [] then none else some (4, 2 + runN isDg r)) else some (4, 1 + runN isDg (d :: r))) else some (kind, 0) := rfl
theorem nSuf_cons (kind : Nat) (c : UInt8) (r : List UInt8) : nSuf kind (c :: r) = if isF c then (4, 1) else (kind, 0) := rfl
def nRest (kind n : Nat) (s : List UInt8) : Option (Nat × Nat) := match nFrac kind s with
 | none => none
 | some (k1, n1) => match nExp k1 (s.drop n1) with
  | none => none
  | some (k2, n2) => if endT (s.drop (n1 + n2 + (nSuf k2 (s.drop (n1 + n2))).2)) then some ((nSuf k2 (s.drop (n1 + n2))).1, n + n1 + n2 + (nSuf k2 (s.drop (n1 + n2))).2) else none
def nHex (r : List UInt8) : Option (Nat × Nat) := if runN isHex r = 0 then none else if endT (r.drop (runN isHex r)) then some (1, 2 + runN isHex r) else none
def nOct (r : List UInt8) : Option (Nat × Nat) := if endT (r.drop (runN isOct r)) then some (2, 2 + runN isOct r) else none
def numB : List UInt8 → Option (Nat × Nat)
 | [] => none
 | c :: r => if c.toNat = 48 then (match r with
   | [] => nRest 0 1 []
   | d :: r2 => if d.toNat = 120 ∨ d.toNat = 88 then nHex r2 else if isOct d then nOct r2 else nRest 0 1 (d :: r2))
  else if 49 ≤ c.toNat ∧ c.toNat ≤ 57 then nRest 0 (1 + runN isDg r) (r.drop (runN isDg r))
  else if c.toNat = 46 then nRest 4 0 (c :: r) else none
theorem numB_cons (c : UInt8) (r : List UInt8) : numB (c :: r) = if c.toNat = 48 then (match r with
   | [] => nRest 0 1 []
   | d :: r2 => if d.toNat = 120 ∨ d.toNat = 88 then nHex r2 else if isOct d then nOct r2 else nRest 0 1 (d :: r2))
  else if 49 ≤ c.toNat ∧ c.toNat ≤ 57 then nRest 0 (1 + runN isDg r) (r.drop (runN isDg r))
  else if c.toNat = 46 then nRest 4 0 (c :: r) else none := rfl
def numT : List UInt8 → Option NT
 | [] => none
 | c :: r => if c.toNat = 45 then (match numB (r.drop (skT false r)) with
   | none => none
   | some (k, n) => some ⟨k, true, 1 + skT false r + n, skT false r⟩)
  else match numB (c :: r) with
   | none => none
   | some (k, n) => some ⟨k, false, n, 0⟩
theorem numT_cons (c : UInt8) (r : List UInt8) : numT (c :: r) = if c.toNat = 45 then (match numB (r.drop (skT false r)) with
   | none => none
   | some (k, n) => some ⟨k, true, 1 + skT false r + n, skT false r⟩)
  else match numB (c :: r) with
   | none => none
   | some (k, n) => some ⟨k, false, n, 0⟩ := rfl
def numS (x : NT) (l : List UInt8) : List UInt8 :=
 let z := if x.kind = 4 ∧ isF (l.getD (x.size - 1) 0) = true then x.size - 1 else x.size
 if x.neg = true ∧ 0 < x.sep then l.getD 0 0 :: ((l.take z).drop (x.sep + 1)) else l.take z
def tenV : Nat → List UInt8 → Nat
 | acc, [] => acc
 | acc, c :: l => tenV (acc * 10 + (c.toNat - 48)) l

def tnC (c : UInt8) : Bool := c.toNat == 45 || (c.toNat == 95 || (isDg c || (decide (97 ≤ c.toNat) && decide (c.toNat ≤ 122) || decide (65 ≤ c.toNat) && decide (c.toNat ≤ 90))))
def urlC (c : UInt8) : Bool := c.toNat == 46 || (c.toNat == 126 || (c.toNat == 33 || (c.toNat == 36 || (c.toNat == 38 || (c.toNat == 40 || (c.toNat == 41 || (c.toNat == 42 || (c.toNat == 43 || (c.toNat == 44 || (c.toNat == 59 || c.toNat == 61))))))))))
def csT (l : List UInt8) : List UInt8 := l.drop (skT false l)
theorem csT_len (l : List UInt8) : (csT l).length ≤ l.length := by unfold csT; simp
def tnF : Nat → List UInt8 → List UInt8 → Option (List UInt8 × List UInt8)
 | 0, _, _ => none
 | _ + 1, [], _ => none
 | f + 1, c :: r, name => if c.toNat = 93 then some (name, r) else if c.toNat = 47 ∨ tnC c = true ∨ urlC c = true then tnF f (csT r) (name ++ [c])
  else if c.toNat = 37 then (match r with
   | a :: b :: r2 => if isHex a && isHex b then tnF f (csT r2) (name ++ [c, a, b]) else none
   | _ => none)
  else none
theorem tnF_cons (f : Nat) (c : UInt8) (r name : List UInt8) : tnF (f + 1) (c :: r) name = if c.toNat = 93 then some (name, r) else if c.toNat = 47 ∨ tnC c = true ∨ urlC c = true then tnF f (csT r) (name ++ [c])
  else if c.toNat = 37 then (match r with
   | a :: b :: r2 => if isHex a && isHex b then tnF f (csT r2) (name ++ [c, a, b]) else none
   | _ => none)
  else none := rfl
def slashT : List UInt8 → Option (List UInt8 × List UInt8)
 | [] => none
 | c :: l => match slashT l with
  | some (p, t) => some (c :: p, t)
  | none => if c.toNat = 47 then some ([], l) else none
def partsT : Bool → List UInt8 → Bool
 | b, [] => b
 | b, c :: l => if c.toNat = 46 then b && partsT false l else partsT true l
def typeOk (t : List UInt8) : Bool := partsT false t && t.all fun c => !(c.toNat == 37 || c.toNat != 46 && urlC c)
def nameOk (name : List UInt8) : Bool := match slashT name with
 | none => typeOk name
 | some (p, t) => !(match p with
  | [] => false
  | c :: _ => c.toNat == 47) && typeOk t

structure TT where
 kind : Nat
 att : Nat
 sep : Bool
 na : Nat
 pos : Nat
 raw : List UInt8
 str : List UInt8
def TT.zero : TT := ⟨0, 0, false, 0, 0, [], []⟩
structure DT where
 peeked : Bool
 tok : TT
 bad : Bool
 st : List UInt8
 k : Nat
def goT (bs : List UInt8) (k n : Nat) : Nat := k + n + skT false (bs.drop (k + n))
def tokT (bs : List UInt8) (k kind n att : Nat) : TT × Nat := (⟨kind, att, false, 0, k, (bs.drop k).take n, []⟩, goT bs k n)
def sepT (bs : List UInt8) : TT × Nat → TT × Nat
 | (t, k) => match bs.drop k with
  | c :: _ => if c.toNat = 58 then ({ t with sep := true }, goT bs k 1) else (t, k)
  | [] => (t, k)
theorem sepT_nil {bs : List UInt8} {t : TT} {k : Nat} (h : bs.drop k = []) : sepT bs (t, k) = (t, k) := by unfold sepT; simp only; rw [h]
theorem sepT_cons {bs : List UInt8} {t : TT} {k : Nat} {c : UInt8} {r : List UInt8} (h : bs.drop k = c :: r) : sepT bs (t, k) = if c.toNat = 58 then ({ t with sep := true }, goT bs k 1) else (t, k) := by unfold sepT; simp only; rw [h]
def typeT (bs : List UInt8) (k : Nat) : Option (TT × Nat) := match tnF (bs.length + 1) (csT (bs.drop (k + 1))) [] with
 | none => none
 | some (name, r) => if nameOk name then some (⟨2, 2, false, 0, k, (bs.drop k).take (bs.length - r.length - k), name⟩, goT bs (bs.length - r.length) 0) else none
def fieldT (bs : List UInt8) (k : Nat) : Option (TT × Nat) := match bs.drop k with
 | [] => none
 | c :: r => (if c.toNat = 91 then typeT bs k else if identT false (c :: r) ≠ 0 then some (tokT bs k 2 (identT false (c :: r)) 1)
  else match numT (c :: r) with
   | none => none
   | some x => if x.neg = false ∧ x.kind = 0 ∧ tenV 0 (numS x (c :: r)) ≤ 2147483647 then some (tokT bs k 2 x.size 3) else none).map (sepT bs)
def strsT (bs : List UInt8) : Nat → Nat → List UInt8 → Option (List UInt8 × Nat)
 | 0, _, _ => none
 | f + 1, k, out => match bs.drop k with
  | [] => some (out, k)
  | c :: r => if c.toNat = 34 ∨ c.toNat = 39 then (match strT c.toNat r [] with
    | none => none
    | some (s, m) => strsT bs f (goT bs k (r.length + 1 - m)) (out ++ s))
   else some (out, k)
def scalarT (bs : List UInt8) (k : Nat) : Option (TT × Nat) := match bs.drop k with
 | [] => none
 | c :: r => if c.toNat = 34 ∨ c.toNat = 39 then (match strsT bs (bs.length + 1) k [] with
   | none => none
   | some (s, k') => some (⟨3, 2, false, 0, k, (bs.drop k).take (k' - k), s⟩, k'))
  else if identT true (c :: r) ≠ 0 then some (tokT bs k 3 (identT true (c :: r)) 3)
  else match numT (c :: r) with
   | none => none
   | some x => some (⟨3, 1, false, x.kind + (if x.neg then 128 else 0), k, (bs.drop k).take x.size, numS x (c :: r)⟩, goT bs k x.size)
def openK (st : List UInt8) : Nat := match st.getLast? with
 | none => 0
 | some c => if c.toNat = 91 then 6 else 4
def closeT (st : List UInt8) : Nat := match st.getLast? with
 | none => 0
 | some c => if c.toNat = 91 then 93 else if c.toNat = 123 then 125 else 62
def otherT (c : Nat) : Nat := if c = 125 then 62 else 125
def withSt (st : List UInt8) : Option (TT × Nat) → Option (TT × List UInt8 × Nat)
 | none => none
 | some (t, k) => some (t, st, k)
def inMsg (bs : List UInt8) (sepOk : Bool) (st : List UInt8) (k : Nat) : Option (TT × List UInt8 × Nat) := match bs.drop k with
 | [] => none
 | c :: _ => if c.toNat = closeT st then withSt st.dropLast (some (tokT bs k 5 1 0)) else if c.toNat = otherT (closeT st) then none
  else if sepOk ∧ c.toNat = 44 then withSt st (some (tokT bs k 8 1 0)) else if sepOk ∧ c.toNat = 59 then withSt st (some (tokT bs k 9 1 0)) else withSt st (fieldT bs k)
def inTop (bs : List UInt8) (sepOk : Bool) (st : List UInt8) (k : Nat) : Option (TT × List UInt8 × Nat) := match bs.drop k with
 | [] => withSt st (some (tokT bs k 1 0 0))
 | c :: _ => if sepOk ∧ c.toNat = 44 then withSt st (some (tokT bs k 8 1 0)) else if sepOk ∧ c.toNat = 59 then withSt st (some (tokT bs k 9 1 0)) else withSt st (fieldT bs k)
def inList (bs : List UInt8) (st : List UInt8) (k : Nat) : Option (TT × List UInt8 × Nat) := match bs.drop k with
 | [] => none
 | c :: _ => if c.toNat = 93 then withSt st.dropLast (some (tokT bs k 7 1 0)) else if c.toNat = 44 then withSt st (some (tokT bs k 8 1 0)) else none
def value1 (bs : List UInt8) (list close : Bool) (st : List UInt8) (k : Nat) : Option (TT × List UInt8 × Nat) := match bs.drop k with
 | [] => none
 | c :: _ => if c.toNat = 123 ∨ c.toNat = 60 then withSt (st ++ [c]) (some (tokT bs k 4 1 0)) else if list ∧ c.toNat = 91 then withSt (st ++ [c]) (some (tokT bs k 6 1 0))
  else if close ∧ c.toNat = 93 then withSt st.dropLast (some (tokT bs k 7 1 0)) else withSt st (scalarT bs k)
def nextT (bs : List UInt8) (last : Nat) (st : List UInt8) (k0 : Nat) : Option (TT × List UInt8 × Nat) :=
 let k := goT bs k0 0
 if last = 1 then withSt st (some (tokT bs k 1 0 0))
 else if last = 0 then inTop bs false st k
 else if last = 2 then value1 bs true false st k
 else if last = 4 then inMsg bs false st k
 else if last = 6 then value1 bs false true st k
 else if last = 8 ∨ last = 9 then (if openK st = 0 then inTop bs false st k else if openK st = 4 then inMsg bs false st k else value1 bs false false st k)
 else (if openK st = 0 then inTop bs true st k else if openK st = 4 then inMsg bs true st k else inList bs st k)
def stepT (bs : List UInt8) (s : DT) : Option DT := match nextT bs s.tok.kind s.st s.k with
 | none => none
 | some (t, st, k) => some ⟨false, t, s.bad, st, k⟩
def readF (bs : List UInt8) (s : DT) : Option DT := match stepT bs s with
 | none => none
 | some s1 => if s1.tok.kind = 8 ∨ s1.tok.kind = 9 then stepT bs s1 else some s1
def readT (bs : List UInt8) (s : DT) : Option DT := if s.peeked then (if s.bad then none else some { s with peeked := false }) else readF bs s
def peekT (bs : List UInt8) (s : DT) : DT := if s.peeked then s else match readF bs s with
 | some s1 => { s1 with peeked := true, bad := false }
 | none => { s with peeked := true, bad := true, tok := TT.zero }
def runT (bs : List UInt8) (ps : List Bool) : Nat → DT → List TT → List TT × Bool
 | 0, _, out => (out, false)
 | f + 1, s, out => match readT bs (if ps.getD out.length false then peekT bs s else s) with
  | none => (out, false)
  | some s1 => if s1.tok.kind = 1 then (out, true) else runT bs ps f s1 (out ++ [s1.tok])
def DT.new : DT := ⟨false, TT.zero, false, [], 0⟩
def allT (bs : List UInt8) (ps : List Bool) : List TT × Bool := runT bs ps (bs.length + 1) DT.new []
end Go.Proofs.YtgdnpnipahegaaaGreatDoor
