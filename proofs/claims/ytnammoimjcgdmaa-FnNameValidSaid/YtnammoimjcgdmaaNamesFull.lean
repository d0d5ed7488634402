/-
  Plain facts on names and full names as lists of bytes. No program in sight.
-/
import Derived.Test.YtnammoimjcgdmaaBytes
namespace Go.Proofs.Ytnammoimjcgdmaa
open Go.RowKit

def lettI (c : Int) : Bool := (decide (97 ≤ c) && decide (c ≤ 122)) || (decide (65 ≤ c) && decide (c ≤ 90)) || c == 95
def digI (c : Int) : Bool := decide (48 ≤ c) && decide (c ≤ 57)
def ldI (c : Int) : Bool := lettI c || digI c
def letB (c : UInt8) : Bool := lettI c.toNat
def ldB (c : UInt8) : Bool := ldI c.toNat
def okHead : List UInt8 → Bool
  | [] => false
  | c :: _ => letB c
def namedL (l : List UInt8) : Bool := okHead l && l.all ldB
def identI (l : List UInt8) : Int := if okHead l then ((l.takeWhile ldB).length : Int) else -1
/-- names with points between: seg: what has been read of the name at hand -/
def segs : List UInt8 → List UInt8 → Bool
  | seg, [] => namedL seg
  | seg, c :: l => if c.toNat == 46 then namedL seg && segs [] l else segs (seg ++ [c]) l
def fullL (l : List UInt8) : Bool := segs [] l
def fullR : List UInt8 → Bool
  | [] => true
  | c :: r => c.toNat == 46 && fullL r

theorem ldB_46 {c : UInt8} (h : c.toNat = 46) : ldB c = false := by simp [ldB, ldI, lettI, digI, h]
theorem ldB_of_letB {c : UInt8} (h : letB c = true) : ldB c = true := by unfold ldB ldI; unfold letB at h; rw [h]; rfl

theorem mem_tw (p : UInt8 → Bool) : ∀ (l : List UInt8) (c : UInt8), c ∈ l.takeWhile p → p c = true
  | [], c, h => by simp at h
  | d :: l, c, h => by
    rw [List.takeWhile_cons] at h
    split at h
    · rename_i hd
      rcases List.mem_cons.1 h with e | e
      · rw [e]; exact hd
      · exact mem_tw p l c e
    · simp at h
theorem drop_tw (p : UInt8 → Bool) : ∀ (l : List UInt8), l.drop (l.takeWhile p).length = l.dropWhile p
  | [] => rfl
  | d :: l => by
    rw [List.takeWhile_cons, List.dropWhile_cons]
    split
    · simpa using drop_tw p l
    · rfl
theorem head_dw (p : UInt8 → Bool) : ∀ (l : List UInt8) (c : UInt8) (r : List UInt8), l.dropWhile p = c :: r → p c = false
  | [], c, r, h => by simp at h
  | d :: l, c, r, h => by
    rw [List.dropWhile_cons] at h
    split at h
    · exact head_dw p l c r h
    · rename_i hd
      injection h with h1 h2
      rw [← h1]
      simpa using hd
theorem takeWhile_len (p : UInt8 → Bool) : ∀ (l : List UInt8) (k : Nat), k ≤ l.length → (∀ j (h : j < l.length), j < k → p l[j] = true) → (∀ h : k < l.length, p l[k] = false) → (l.takeWhile p).length = k
  | [], k, hk, _, _ => by simp at hk ⊢; omega
  | c :: l, 0, _, _, h2 => by
    have : p c = false := h2 (by simp)
    simp [this]
  | c :: l, k + 1, hk, h1, h2 => by
    have hc : p c = true := h1 0 (by simp) (by omega)
    have ih := takeWhile_len p l k (by simpa using hk) (fun j hj hjk => h1 (j + 1) (by simpa using hj) (by omega)) (fun hj => h2 (by simpa using hj))
    simp [hc, ih]

theorem identI_nil : identI [] = -1 := rfl
theorem named_ident (l : List UInt8) : namedL l = (identI l == (l.length : Int)) := by
  unfold namedL identI
  cases h : okHead l with
  | false => simp
  | true =>
    have h2 : (l.all ldB = true) ↔ (l.takeWhile ldB).length = l.length := by
      constructor
      · intro ha
        rw [List.all_eq_true] at ha
        exact takeWhile_len ldB l l.length (Nat.le_refl _) (fun j hj _ => ha _ (List.getElem_mem hj)) (fun hj => absurd hj (by omega))
      · intro he
        have hsub := List.takeWhile_sublist (l := l) ldB
        have heq := List.Sublist.eq_of_length hsub he
        rw [List.all_eq_true]
        intro x hx
        rw [← heq] at hx
        exact (mem_tw _ _ _ hx)
    rw [Bool.eq_iff_iff]
    simp only [Bool.true_and, if_true, beq_iff_eq]
    rw [h2]
    omega

theorem segs_app : ∀ (t : List UInt8) (seg r : List UInt8), (∀ c ∈ t, (c.toNat == 46) = false) → segs seg (t ++ r) = segs (seg ++ t) r
  | [], seg, r, _ => by simp
  | c :: t, seg, r, h => by
    rw [List.cons_append, segs, h c (by simp)]
    simp only [Bool.false_eq_true, if_false]
    rw [segs_app t _ r (fun x hx => h x (by simp [hx]))]
    simp
theorem segs_bad : ∀ (l : List UInt8) (seg : List UInt8), seg.all ldB = false → segs seg l = false
  | [], seg, h => by simp [segs, namedL, h]
  | c :: l, seg, h => by
    rw [segs]
    split
    · simp [namedL, h]
    · exact segs_bad l _ (by rw [List.all_append, h]; rfl)
theorem segs_head : ∀ (l : List UInt8) (c : UInt8) (seg : List UInt8), letB c = false → segs (c :: seg) l = false
  | [], c, seg, h => by simp [segs, namedL, okHead, h]
  | d :: l, c, seg, h => by
    rw [segs]
    split
    · simp [namedL, okHead, h]
    · exact segs_head l c _ h
theorem segs_dot : ∀ (a : List UInt8) (seg b : List UInt8) (d : UInt8), d.toNat = 46 → segs seg (a ++ d :: b) = (segs seg a && segs [] b)
  | [], seg, b, d, hd => by simp [segs, hd]
  | c :: a, seg, b, d, hd => by
    rw [List.cons_append, segs, segs]
    split
    · rw [segs_dot a [] b d hd, Bool.and_assoc]
    · exact segs_dot a _ b d hd

theorem drop_takeWhile (p : UInt8 → Bool) (l : List UInt8) : l.takeWhile p ++ l.drop (l.takeWhile p).length = l := by
  rw [drop_tw, List.takeWhile_append_dropWhile]

theorem fullL_step (l : List UInt8) : fullL l = if okHead l then fullR (l.drop (l.takeWhile ldB).length) else false := by
  unfold fullL
  cases h : okHead l with
  | false =>
    simp only [Bool.false_eq_true, if_false]
    cases l with
    | nil => rfl
    | cons c l =>
      rw [segs]
      split
      · rfl
      · exact segs_head l c [] h
  | true =>
    simp only [if_true]
    have hall : ∀ c ∈ l.takeWhile ldB, ldB c = true := fun c hc => mem_tw _ _ _ hc
    have hne : ∀ c ∈ l.takeWhile ldB, (c.toNat == 46) = false := by
      intro c hc
      have h1 := hall c hc
      cases e : (c.toNat == 46) with
      | false => rfl
      | true => rw [ldB_46 (by simpa using e)] at h1; cases h1
    have hsplit := drop_takeWhile ldB l
    have hnext : ∀ c r, l.drop (l.takeWhile ldB).length = c :: r → ldB c = false := by
      intro c r he
      rw [drop_tw] at he
      exact head_dw ldB l c r he
    have hnamed : namedL (l.takeWhile ldB) = true := by
      unfold namedL
      rw [Bool.and_eq_true]
      refine ⟨?_, List.all_eq_true.2 hall⟩
      cases l with
      | nil => cases h
      | cons c l => simp only [List.takeWhile_cons, ldB_of_letB (c := c) h, if_true]; exact h
    conv => lhs; rw [← hsplit]
    rw [segs_app _ _ _ hne, List.nil_append]
    cases hr : l.drop (l.takeWhile ldB).length with
    | nil => rw [segs, hnamed]; rfl
    | cons c r =>
      have hc := hnext c r hr
      rw [segs, fullR]
      cases e : (c.toNat == 46) with
      | true => simp [hnamed, fullL]
      | false =>
        simp only [Bool.false_eq_true, if_false, Bool.false_and]
        exact segs_bad _ _ (by rw [List.all_append]; simp [hc])

theorem segs_nodot (b : List UInt8) (h : ∀ c ∈ b, (c.toNat == 46) = false) : segs [] b = namedL b := by
  have := segs_app b [] [] h
  simpa [segs] using this
theorem fullL_last (a b : List UInt8) (d : UInt8) (hd : d.toNat = 46) (h : ∀ c ∈ b, (c.toNat == 46) = false) : fullL (a ++ d :: b) = (fullL a && namedL b) := by
  unfold fullL
  rw [segs_dot a [] b d hd, segs_nodot b h]
theorem fullL_nodot (b : List UInt8) (h : ∀ c ∈ b, (c.toNat == 46) = false) : fullL b = namedL b := segs_nodot b h
end Go.Proofs.Ytnammoimjcgdmaa
