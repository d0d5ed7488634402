/-
  The library's DecodeRune on bytes; where a string needs an escape.
-/
import Derived.Test.YtjkmmhnhhiopiaaDoorDDecode
import Derived.Lib.OthersKept
namespace Go.Proofs.YtjkmmhnhhiopiaaDoor
open Go.ChangeShapes Go.WideShapes Go.ChangeAt Go.RowKit Go.Lib

theorem decV_ascii (c : UInt8) (l : List UInt8) (h : c.toNat < 128) : decV (c :: l) = .tuple #[.int .i32 (c.toNat : Int), .int .i64 1] := by
  unfold decV chr; rw [u8char_cons, if_pos h]; rfl
set_option maxRecDepth 100000 in
set_option maxHeartbeats 1000000 in
theorem decodeRune_any (v : Value) (l : List UInt8) (g : Nat) (w : World) (hv : View w g v l) (hne : l ≠ []) (hm : l.length ≤ 100000000) (hT : Lib.Utf8Tabs 1 2 w) :
    Calls Tryd.prog 83 #[v] w fun e w' => e = .returned (decV l) ∧ Below w.heap.size w w' := by
  have HS := hid (decodeRuneSlow_any v l g w hv hne hm hT)
  obtain ⟨ao, cap, rfl, hlc, hcm, hn0, off, hao, hcell⟩ := hv
  obtain rfl := hao hne
  obtain ⟨c, l, rfl⟩ := List.exists_cons_of_ne_nil hne
  have c0 : w.cell? ⟨g, off, none⟩ = some (.int .u8 (c.toNat : Int)) := hcell 0 (by simp)
  have bc := byte_bd c
  have hz0 : (0 : Int) < ((c :: l).length : Int) := by simp <;> omega
  clear hcell hao hn0 hne hT
  by_cases h128 : c.toNat < 128
  · have HF := hid (decV_ascii c l h128)
    have hlt : (c.toNat : Int) < 128 := by omega
    generalize (c :: l).length = n at *
    go_enter Tryd.func83, Tryd.ntmps83
    go_wp2_with fail
    go_loop [8] (fun i => i = .int .i64 0) (fun _ => 0)
    case atStart => rfl
    case round =>
      subst hrel
      go_wp2_with fail
      go_ret2
      exact ⟨by rw [HF.out]; rfl, Below.refl _ _⟩
  · have hlt : ¬ (c.toNat : Int) < 128 := by omega
    unfold decV at HS ⊢
    generalize (chr (c :: l)).1 = r1 at *
    generalize (chr (c :: l)).2 = r2 at *
    generalize (c :: l).length = n at *
    clear h128
    go_enter Tryd.func83, Tryd.ntmps83
    go_wp2_with fail
    go_loop [8] (fun i => i = .int .i64 0) (fun _ => 0)
    case atStart => rfl
    case round =>
      subst hrel
      go_wp2_with (first | (go_at_call 92; refine (Calls.mono HS.out ?_); rintro e w1 ⟨rfl, hb1⟩) | fail)
      go_ret2
      exact ⟨rfl, hb1⟩

theorem iterPos_of {w : World} {k : Nat} {s : ByteArray} {p : Nat} (h : w.heap[k]? = some (.stringIter s p)) : w.iterPos k = p := by simp [World.iterPos, h]
theorem get!_list (l : List UInt8) (k : Nat) : (⟨l.toArray⟩ : ByteArray).get! k = l.getD k 0 := by
  show (l.toArray)[k]! = _
  simp [List.getD_eq_getElem?_getD, getElem!_def]
  cases l[k]? <;> rfl
theorem getD_drop (l : List UInt8) (k j : Nat) : (l.drop k).getD j 0 = l.getD (k + j) 0 := by
  simp [List.getD_eq_getElem?_getD, List.getElem?_drop]
/-- the model's decoder at a place of a string -/
theorem decode_chr (l : List UInt8) (k : Nat) (h : k < l.length) : Utf8.decode ⟨l.toArray⟩ k = chr (l.drop k) := by
  rw [← dec_eq _ (by intro e; have := congrArg List.length e; simp at this; omega), Lib.decode_at, get!_list, get!_list, get!_list, get!_list]
  unfold dec
  rw [getD_drop, getD_drop, getD_drop, getD_drop, List.length_drop, size_mk]
  simp only [Nat.add_zero]
theorem chr_pos {l : List UInt8} (h : l ≠ []) : 1 ≤ (chr l).2 ∧ (chr l).2 ≤ l.length := by
  have hl := List.length_pos_iff.2 h
  unfold chr
  rcases hu : u8char l with _ | ⟨c, n⟩
  · simp only; omega
  · have := u8char_size hu; simp only; omega

def stopC (r : Nat) : Bool := decide (r < 32) || r == 92 || r == 34 || r == 65533
/-- where the first character stands that needs an escape -/
def needN : Nat → List UInt8 → Nat
  | 0, _ => 0
  | f + 1, l => if l = [] then 0 else if stopC (chr l).1 then 0 else (chr l).2 + needN f (l.drop (chr l).2)
def needAt (l : List UInt8) : Nat := needN l.length l
theorem needN_nil (f : Nat) : needN f [] = 0 := by cases f <;> rfl
theorem needN_le : ∀ (f : Nat) (l : List UInt8), needN f l ≤ l.length
  | 0, l => Nat.zero_le _
  | f + 1, l => by
    unfold needN
    split
    · exact Nat.zero_le _
    · rename_i hne
      split
      · exact Nat.zero_le _
      · have h1 := chr_pos hne
        have h2 := needN_le f (l.drop (chr l).2)
        simp only [List.length_drop] at h2
        omega

set_option maxRecDepth 100000 in
set_option maxHeartbeats 1000000 in
theorem indexNeed_any (l : List UInt8) (w : World) (hm : l.length ≤ 100000000) :
    Calls Tryd.prog 90 #[.string ⟨l.toArray⟩] w fun e w' => e = .returned (.int .i64 (needAt l)) ∧ Below w.heap.size w w' := by
  have hsz := size_mk l
  have HA : Hid (needAt l = needN l.length l) := hid rfl
  go_enter Tryd.func90, Tryd.ntmps90
  go_wp2
  go_loopw [] (fun wr => ∃ k f : Nat, k ≤ l.length ∧ l.length - k ≤ f ∧ needN l.length l = k + needN f (l.drop k) ∧ wr.heap[w.heap.size]? = some (.stringIter ⟨l.toArray⟩ k) ∧ Below w.heap.size w wr) (fun wr => l.length - wr.iterPos w.heap.size)
  case atStart => exact ⟨0, l.length, Nat.zero_le _, by omega, by simp, World.iter_heap w _ 0, (Below.refl _ _).alloc (Nat.le_refl _) _⟩
  case round =>
    obtain ⟨k, f, hk, hf, hn, hit, hb⟩ := hrel
    have HN := hid hn
    clear hn
    have hmu := iterPos_of hit
    by_cases hlt : k < l.length
    · have hlt' : k < (⟨l.toArray⟩ : ByteArray).size := by rw [hsz]; exact hlt
      have hnx := fun ty => Lib.run_next_any_at (P := Tryd.prog) wr w.heap.size ⟨l.toArray⟩ k ty hit hlt'
      have hheap2 := Lib.iterAt_heap wr w.heap.size ⟨l.toArray⟩ k (k + (Utf8.decode ⟨l.toArray⟩ k).2) hit
      have hb2 := Lib.below_iterAt hb (Nat.le_refl _) ⟨l.toArray⟩ (k + (Utf8.decode ⟨l.toArray⟩ k).2)
      have hdne : l.drop k ≠ [] := by intro e; have := congrArg List.length e; simp at this; omega
      have hcp := chr_pos hdne
      obtain ⟨f', rfl⟩ : ∃ f', f = f' + 1 := ⟨f - 1, by omega⟩
      have hst : needN (f' + 1) (l.drop k) = if stopC (chr (l.drop k)).1 then 0 else (chr (l.drop k)).2 + needN f' ((l.drop k).drop (chr (l.drop k)).2) := by rw [needN, if_neg hdne]
      rw [List.drop_drop] at hst
      rw [decode_chr l k hlt] at hnx hheap2 hb2
      simp only [List.length_drop] at hcp
      generalize chr (l.drop k) = dc at *
      obtain ⟨rn, wd⟩ := dc
      simp only at hnx hcp hheap2 hb2 hst
      have HST := hid hst
      clear hst hdne
      cases hsc : stopC rn with
      | true =>
        have HF : Hid (needN l.length l = k) := hid (by rw [HN.out, HST.out, hsc]; rfl)
        have hcs : ((rn : Int) < 32) ∨ (¬ ((rn : Int) < 32) ∧ ((((rn : Int) == 92) = true) ∨ (((rn : Int) == 92) = false ∧ ((((rn : Int) == 34) = true) ∨ (((rn : Int) == 34) = false ∧ ((rn : Int) == 65533) = true))))) := by
          unfold stopC at hsc
          simp at hsc ⊢
          omega
        clear hsc
        rcases hcs with q1 | ⟨q1, q2 | ⟨q2, q3 | ⟨q3, q4⟩⟩⟩
        all_goals
          go_wp2_with fail
          go_ret
          exact ⟨by rw [HA.out, HF.out]; rfl, hb2⟩
      | false =>
        have HF : Hid (needN l.length l = (k + wd) + needN f' (l.drop (k + wd))) := hid (by rw [HN.out, HST.out, hsc]; simp only [Bool.false_eq_true, if_false]; omega)
        have hcs : ¬ ((rn : Int) < 32) ∧ ((rn : Int) == 92) = false ∧ ((rn : Int) == 34) = false ∧ ((rn : Int) == 65533) = false := by
          unfold stopC at hsc
          simp at hsc ⊢
          omega
        obtain ⟨q1, q2, q3, q4⟩ := hcs
        clear hsc
        go_wp2_with fail
        go_roundw
        case rel => exact ⟨k + wd, f', by omega, by omega, HF.out, hheap2, hb2⟩
        case measure => rw [iterPos_of hheap2]; omega
    · have hnx := fun ty => Lib.run_next_end_at (P := Tryd.prog) wr w.heap.size ⟨l.toArray⟩ k ty hit (by rw [hsz]; exact hlt)
      have HF : Hid (needN l.length l = l.length) := hid (by rw [HN.out, List.drop_eq_nil_of_le (by omega), needN_nil]; omega)
      go_wp2_with fail
      go_ret
      exact ⟨by rw [HA.out, HF.out]; rfl, hb⟩
end Go.Proofs.YtjkmmhnhhiopiaaDoor
