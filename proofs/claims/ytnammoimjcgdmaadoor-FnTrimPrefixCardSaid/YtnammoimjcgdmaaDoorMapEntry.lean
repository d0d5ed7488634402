/-
  The laws FnMapEntry and FnEnumValue: what the package's loops give.
-/
import Derived.Test.YtnammoimjcgdmaaDoorWords
import Derived.Lib.OthersKept
import Derived.Lib.AppendStr
namespace Go.Proofs.YtnammoimjcgdmaaDoor
open Go.ChangeShapes Go.WideShapes Go.ChangeAt Go.RowKit
open Go.ChangeMaps (open_string shut_string)

theorem toUpper_ascii (c : Int) (w : World) (h : c < 128) :
    Calls Tryd.prog 27 #[.int .i32 c] w fun e w' => e = .returned (.int .i32 (upI c)) ∧ w = w' := by
  rcases hl : isLow c with _ | _
  all_goals
    have HL := hid hl
    simp only [isLow, Bool.and_eq_true, Bool.and_eq_false_iff, decide_eq_true_eq, decide_eq_false_iff_not] at hl
    go_enter Tryd.func27, Tryd.ntmps27
    go_wp2_with fail
    all_goals go_ret
    all_goals exact ⟨ret_int (by unfold upI; rw [HL.out]; simp; try omega), rfl⟩
theorem toLower_ascii (c : Int) (w : World) (h : c < 128) :
    Calls Tryd.prog 28 #[.int .i32 c] w fun e w' => e = .returned (.int .i32 (lowI c)) ∧ w = w' := by
  rcases hl : isUp c with _ | _
  all_goals
    have HL := hid hl
    simp only [isUp, Bool.and_eq_true, Bool.and_eq_false_iff, decide_eq_true_eq, decide_eq_false_iff_not] at hl
    go_enter Tryd.func28, Tryd.ntmps28
    go_wp2_with fail
    all_goals go_ret
    all_goals exact ⟨ret_int (by unfold lowI; rw [HL.out]; simp; try omega), rfl⟩

theorem strCells_eq (s : ByteArray) : Lib.strCells s = byteCells s.data.toList := rfl

section
variable {P : Program} {ops : Array Oper} {rest : List Oper} {o : Oper} {a : Act} {Q : Exit → Act → World → Prop}
/-- append(b, s...), b the call's own, s a string -/
theorem wpList_append_text (w : World) (hgd : o.guard = none) (sl x : Operand) (t u : TypeId)
    (ho : o.op = .call { callee := .builtin .append, args := #[sl, x], argTypes := #[t, u] })
    (B : Nat) (e : TypeId) (ht : P.underlying t = some (.slice e)) (hu : P.underlying u = some .string) (hinfo : (P.info? e).map (fun i => (i.zero, i.size, i.bytes)) = some (some (.int .u8 0), 1, 1))
    (v : Value) (bs : List UInt8) (hs : a.eval sl = v) (hown : OwnB w B e v bs) {w0 : World} (hb : Below B w0 w) (hB : B ≤ w0.heap.size)
    (s : ByteArray) (hx : a.eval x = .string s) (hlen : bs.length + s.size ≤ 140737488355328)
    (h : ∀ v' w', OwnB w' B e v' (bs ++ s.data.toList) → Below B w0 w' → wpList P ops Q rest (a.put o.dst v') w') : wpList P ops Q (o :: rest) a w := by
  obtain ⟨i, hi, hz, hz1, hz2⟩ := info_parts hinfo
  have hsz := hb.size
  have hml : maxLen = 9223372036854775807 := rfl
  refine Lib.wpList_append_own_string w hgd sl x t u ho B e i ht hu hi hz hz1 hz2 v bs.length (byteCells bs) hs hown s hx (by omega) hlen (by omega) ?_
  intro v' w' hown' hgrow _
  refine h v' w' ?_ (hb.grown hgrow (by omega) (fun k hk => (World.ownsRow.lt hown k hk).1))
  rw [strCells_eq, ← byteCells_append] at hown'
  unfold OwnB
  have : (bs ++ s.data.toList).length = bs.length + s.size := by simp
  rw [this]; exact hown'
end

theorem iterPos_of {w : World} {k : Nat} {s : ByteArray} {p : Nat} (h : w.heap[k]? = some (.stringIter s p)) : w.iterPos k = p := by simp [World.iterPos, h]
theorem OwnB.iterAt {w : World} {B : Nat} {e : TypeId} {v : Value} {bs : List UInt8} (h : OwnB w B e v bs) {k : Nat} (hk : k < B) (s : ByteArray) (pos : Nat) : OwnB (w.iterAt k s pos) B e v bs := by
  refine ⟨h.1, ?_⟩
  rcases h.2 with h2 | ⟨g, cap, cur, hv, hb, hg, r⟩
  · exact .inl h2
  · exact .inr ⟨g, cap, cur, hv, hb, by rw [Lib.iterAt_other _ _ _ _ _ (by omega)]; exact hg, r⟩

set_option maxRecDepth 100000 in
set_option maxHeartbeats 2000000 in
theorem mapEntry_any (s : ByteArray) (w : World) (hs : s.size ≤ 1000000) (hp : plainB s = true) :
    Calls Tryd.prog 16 #[.string s] w fun e w' => e = .returned (.string ⟨((wordsSt true upB id s.data.toList).1 ++ [69, 110, 116, 114, 121]).toArray⟩) ∧ Below w.heap.size w w' := by
  have HPL := hid hp
  clear hp
  go_enter Tryd.func16, Tryd.ntmps16
  go_wp2
  go_loopw [3, 4] (fun v u wr => ∃ k : Nat, k ≤ s.size ∧ wr.heap[w.heap.size]? = some (.stringIter s k) ∧ u = .bool (wordsSt true upB id (s.data.toList.take k)).2 ∧ OwnB wr (w.heap.size + 1) 5 v (wordsSt true upB id (s.data.toList.take k)).1 ∧ Below w.heap.size w wr) (fun _ _ wr => s.size - wr.iterPos w.heap.size)
  case atStart => exact ⟨0, Nat.zero_le _, World.iter_heap w s 0, rfl, OwnB.nil _ _ _, (Below.refl _ _).alloc (Nat.le_refl _) _⟩
  case round =>
    obtain ⟨k, hk, hit, rfl, hown, hb⟩ := hrel
    have hln : (wordsSt true upB id (s.data.toList.take k)).1.length ≤ k := Nat.le_trans (wordsSt_len _ _ _ _) (List.length_take_le k s.data.toList)
    have hsz : w.heap.size + 1 ≤ wr.heap.size := (Array.getElem?_eq_some_iff.1 hit).1
    have hmu := iterPos_of hit
    by_cases hlt : k < s.size
    · have E := take_snoc s k hlt
      have HE : Hid (wordsSt true upB id (s.data.toList.take (k + 1)) = wstep upB id (wordsSt true upB id (s.data.toList.take k)) s[k]) := by rw [E]; exact wordsSt_snoc _ _ _ _ _
      clear E
      have hasc : s[k].toNat < 128 := by
        have h1 := HPL.out
        unfold plainB at h1
        have := List.all_eq_true.1 h1 s[k] (by rw [show s[k] = s.data.toList[k]'(by simpa using hlt) from rfl]; exact List.getElem_mem _)
        simpa using this
      have hnx := fun ty => Lib.run_next_ascii_at (P := Tryd.prog) wr w.heap.size s k ty hit hlt hasc
      have hb2 : Below (w.heap.size + 1) (wr.iterAt w.heap.size s (k + 1)) (wr.iterAt w.heap.size s (k + 1)) := Below.refl _ _
      have hB2 : w.heap.size + 1 ≤ (wr.iterAt w.heap.size s (k + 1)).heap.size := by rw [Lib.iterAt_size]; exact hsz
      have hown2 := hown.iterAt (k := w.heap.size) (by omega) s (k + 1)
      have hheap2 := Lib.iterAt_heap wr w.heap.size s k (k + 1) hit
      generalize wordsSt true upB id (s.data.toList.take k) = st at *
      obtain ⟨out, und⟩ := st
      simp only at hown hln HE hown2
      rcases hc : ((s[k].toNat : Int) == 95) with _ | _
      all_goals
        have hc3 : (s[k].toNat == 95) = ((s[k].toNat : Int) == 95) := by rw [Bool.eq_iff_iff]; simp; omega
        rw [hc] at hc3
        have HC := hid hc3
        clear hc3
        rcases und with _ | _
      all_goals
        have bd := upI_bd s[k]
        have bdg := byte_bd s[k]
        go_wp2_with (first | (at_builtin; refine wpList_append_byte _ rfl _ _ 33 rfl _ 5 Tryd.underlying33 Tryd.info5 _ _ rfl (by assumption) (by assumption) (by first | exact Nat.le_refl _ | omega) _ (by first | exact byte_bd _ | omega) 1 rfl (by (try simp only [List.length_append, List.length_cons, List.length_nil]); omega) ?_; intro v1 w1 hown1 hb1) | (go_at_call 27; refine (toUpper_ascii _ _ (by omega)).mono ?_; rintro e w' ⟨rfl, rfl⟩))
        go_roundw
        case rel =>
          first
          | exact ⟨k + 1, by omega, (hb1.block _ (Nat.lt_succ_self _)).trans hheap2, by rw [HE.out]; simp [wstep, HC.out], hown1.eq (by rw [HE.out]; simp [wstep, HC.out, upI_toNat]), (Lib.below_iterAt hb (Nat.le_refl _) _ _).trans (hb1.mono (Nat.le_succ _))⟩
          | exact ⟨k + 1, by omega, hheap2, by rw [HE.out]; simp [wstep, HC.out], hown2.eq (by rw [HE.out]; simp [wstep, HC.out]), Lib.below_iterAt hb (Nat.le_refl _) _ _⟩
        case measure =>
          first
          | (rw [iterPos_of ((hb1.block _ (Nat.lt_succ_self _)).trans hheap2)]; omega)
          | (rw [iterPos_of hheap2]; omega)
    · have hnx := fun ty => Lib.run_next_end_at (P := Tryd.prog) wr w.heap.size s k ty hit hlt
      have hb2 : Below (w.heap.size + 1) wr wr := Below.refl _ _
      go_wp2_with (first | (at_builtin; refine wpList_append_text _ rfl _ _ 33 9 rfl _ 5 Tryd.underlying33 Tryd.underlying9 Tryd.info5 _ _ rfl hown hb2 hsz _ rfl (by show _ + 5 ≤ _; omega) ?_; intro v1 w1 hown1 hb1) | (refine wpList_string_own _ rfl _ 33 9 rfl _ 5 Tryd.underlying33 Tryd.underlying5 Tryd.underlying9 _ _ rfl hown1 ?_))
      go_ret
      exact ⟨by rw [take_all s k hlt]; rfl, hb.trans (hb1.mono (Nat.le_succ _))⟩
set_option maxRecDepth 100000 in
set_option maxHeartbeats 2000000 in
theorem enumValue_any (s : ByteArray) (w : World) (hs : s.size ≤ 1000000) (hp : plainB s = true) :
    Calls Tryd.prog 20 #[.string s] w fun e w' => e = .returned (.string ⟨(wordsSt true upB lowB s.data.toList).1.toArray⟩) ∧ Below w.heap.size w w' := by
  have HPL := hid hp
  clear hp
  go_enter Tryd.func20, Tryd.ntmps20
  go_wp2
  go_loopw [3, 4] (fun v u wr => ∃ k : Nat, k ≤ s.size ∧ wr.heap[w.heap.size]? = some (.stringIter s k) ∧ u = .bool (wordsSt true upB lowB (s.data.toList.take k)).2 ∧ OwnB wr (w.heap.size + 1) 5 v (wordsSt true upB lowB (s.data.toList.take k)).1 ∧ Below w.heap.size w wr) (fun _ _ wr => s.size - wr.iterPos w.heap.size)
  case atStart => exact ⟨0, Nat.zero_le _, World.iter_heap w s 0, rfl, OwnB.nil _ _ _, (Below.refl _ _).alloc (Nat.le_refl _) _⟩
  case round =>
    obtain ⟨k, hk, hit, rfl, hown, hb⟩ := hrel
    have hln : (wordsSt true upB lowB (s.data.toList.take k)).1.length ≤ k := Nat.le_trans (wordsSt_len _ _ _ _) (List.length_take_le k s.data.toList)
    have hsz : w.heap.size + 1 ≤ wr.heap.size := (Array.getElem?_eq_some_iff.1 hit).1
    have hmu := iterPos_of hit
    by_cases hlt : k < s.size
    · have E := take_snoc s k hlt
      have HE : Hid (wordsSt true upB lowB (s.data.toList.take (k + 1)) = wstep upB lowB (wordsSt true upB lowB (s.data.toList.take k)) s[k]) := by rw [E]; exact wordsSt_snoc _ _ _ _ _
      clear E
      have hasc : s[k].toNat < 128 := by
        have h1 := HPL.out
        unfold plainB at h1
        have := List.all_eq_true.1 h1 s[k] (by rw [show s[k] = s.data.toList[k]'(by simpa using hlt) from rfl]; exact List.getElem_mem _)
        simpa using this
      have hnx := fun ty => Lib.run_next_ascii_at (P := Tryd.prog) wr w.heap.size s k ty hit hlt hasc
      have hb2 : Below (w.heap.size + 1) (wr.iterAt w.heap.size s (k + 1)) (wr.iterAt w.heap.size s (k + 1)) := Below.refl _ _
      have hB2 : w.heap.size + 1 ≤ (wr.iterAt w.heap.size s (k + 1)).heap.size := by rw [Lib.iterAt_size]; exact hsz
      have hown2 := hown.iterAt (k := w.heap.size) (by omega) s (k + 1)
      have hheap2 := Lib.iterAt_heap wr w.heap.size s k (k + 1) hit
      generalize wordsSt true upB lowB (s.data.toList.take k) = st at *
      obtain ⟨out, und⟩ := st
      simp only at hown hln HE hown2
      rcases hc : ((s[k].toNat : Int) == 95) with _ | _
      all_goals
        have hc3 : (s[k].toNat == 95) = ((s[k].toNat : Int) == 95) := by rw [Bool.eq_iff_iff]; simp; omega
        rw [hc] at hc3
        have HC := hid hc3
        clear hc3
        rcases und with _ | _
      all_goals
        have bd := upI_bd s[k]
        have bdg := byte_bd s[k]
        have bdl := lowI_bd s[k]
        go_wp2_with (first | (at_builtin; refine wpList_append_byte _ rfl _ _ 33 rfl _ 5 Tryd.underlying33 Tryd.info5 _ _ rfl (by assumption) (by assumption) (by first | exact Nat.le_refl _ | omega) _ (by first | exact byte_bd _ | omega) 1 rfl (by (try simp only [List.length_append, List.length_cons, List.length_nil]); omega) ?_; intro v1 w1 hown1 hb1) | (go_at_call 27; refine (toUpper_ascii _ _ (by omega)).mono ?_; rintro e w' ⟨rfl, rfl⟩) | (go_at_call 28; refine (toLower_ascii _ _ (by omega)).mono ?_; rintro e w' ⟨rfl, rfl⟩))
        go_roundw
        case rel =>
          first
          | exact ⟨k + 1, by omega, (hb1.block _ (Nat.lt_succ_self _)).trans hheap2, by rw [HE.out]; simp [wstep, HC.out], hown1.eq (by rw [HE.out]; simp [wstep, HC.out, upI_toNat, lowI_toNat]), (Lib.below_iterAt hb (Nat.le_refl _) _ _).trans (hb1.mono (Nat.le_succ _))⟩
          | exact ⟨k + 1, by omega, hheap2, by rw [HE.out]; simp [wstep, HC.out], hown2.eq (by rw [HE.out]; simp [wstep, HC.out]), Lib.below_iterAt hb (Nat.le_refl _) _ _⟩
        case measure =>
          first
          | (rw [iterPos_of ((hb1.block _ (Nat.lt_succ_self _)).trans hheap2)]; omega)
          | (rw [iterPos_of hheap2]; omega)
    · have hnx := fun ty => Lib.run_next_end_at (P := Tryd.prog) wr w.heap.size s k ty hit hlt
      go_wp2_with (refine wpList_string_own _ rfl _ 33 9 rfl _ 5 Tryd.underlying33 Tryd.underlying5 Tryd.underlying9 _ _ rfl hown ?_)
      go_ret
      exact ⟨by rw [take_all s k hlt]; rfl, hb⟩

theorem implMapEntry (s : ByteArray) (w : World) (hs : s.size ≤ 1000000) (hp : plainB s = true) :
    Calls Tryd.prog 8 #[.string s] w fun e w' => e = .returned (.string ⟨((wordsSt true upB id s.data.toList).1 ++ [69, 110, 116, 114, 121]).toArray⟩) ∧ Below w.heap.size w w' := by
  go_enter Tryd.func8, Tryd.ntmps8
  go_wp2_with (go_at_call 16; refine (mapEntry_any _ _ (by assumption) (by assumption)).mono ?_; rintro e w' ⟨rfl, hb⟩)
  go_ret
  exact ⟨rfl, hb⟩
theorem implEnumValue (s : ByteArray) (w : World) (hs : s.size ≤ 1000000) (hp : plainB s = true) :
    Calls Tryd.prog 10 #[.string s] w fun e w' => e = .returned (.string ⟨(wordsSt true upB lowB s.data.toList).1.toArray⟩) ∧ Below w.heap.size w w' := by
  go_enter Tryd.func10, Tryd.ntmps10
  go_wp2_with (go_at_call 20; refine (enumValue_any _ _ (by assumption) (by assumption)).mono ?_; rintro e w' ⟨rfl, hb⟩)
  go_ret
  exact ⟨rfl, hb⟩
theorem str_entry (l : List UInt8) : (⟨l.toArray⟩ : ByteArray) ++ (⟨#[69, 110, 116, 114, 121]⟩ : ByteArray) = ⟨(l ++ [69, 110, 116, 114, 121]).toArray⟩ := by
  apply ByteArray.ext
  simp
theorem specMapEntry (s : ByteArray) (w : World) (hs : s.size ≤ 1000000) :
    Calls Tryd.prog 9 #[.string s] w fun e w' => e = .returned (.string ⟨((wordsSt true upB id s.data.toList).1 ++ [69, 110, 116, 114, 121]).toArray⟩) ∧ Below w.heap.size w w' := by
  have hl1 : (wordsSt true upB id s.data.toList).1.length ≤ 1000000 := Nat.le_trans (wordsSt_len true upB id s.data.toList) (by simpa using hs)
  go_enter Tryd.func9, Tryd.ntmps9
  go_wp2_with (go_at_call 17; refine (words_same _ _ (by assumption)).mono ?_; rintro e w' ⟨rfl, hb⟩)
  go_ret
  exact ⟨by first | rfl | exact congrArg _ (congrArg _ (str_entry _)), hb⟩
theorem specEnumValue (s : ByteArray) (w : World) (hs : s.size ≤ 1000000) :
    Calls Tryd.prog 11 #[.string s] w fun e w' => e = .returned (.string ⟨(wordsSt true upB lowB s.data.toList).1.toArray⟩) ∧ Below w.heap.size w w' := by
  go_enter Tryd.func11, Tryd.ntmps11
  go_wp2_with (go_at_call 17; refine (words_low _ _ (by assumption)).mono ?_; rintro e w' ⟨rfl, hb⟩)
  go_ret
  exact ⟨rfl, hb⟩

set_option maxRecDepth 100000 in
theorem fnMapEntry_any (s : ByteArray) (w : World) :
    Calls Tryd.prog 3 #[.string s] w fun e w' => e = .returned (.bool true) ∧ Below w.heap.size w w' := by
  have hb0 : Below w.heap.size w w := Below.refl _ _
  rcases hp : plainB s with _ | _
  all_goals
    have HP := hid hp
    clear hp
    go_enter Tryd.func3, Tryd.ntmps3
    go_wp2_with (first | (go_at_call 7; refine ((HP.out ▸ plain_any s _ (by omega))).mono ?_; rintro e w' ⟨rfl, rfl⟩) | (go_at_call 8; refine (implMapEntry _ _ (by omega) HP.out).mono ?_; rintro e w1 ⟨rfl, hb1⟩; replace hb1 := below_comp (by assumption) hb1) | (go_at_call 9; refine (specMapEntry _ _ (by omega)).mono ?_; rintro e w1 ⟨rfl, hb1⟩; replace hb1 := below_comp (by assumption) hb1))
    all_goals go_ret
    all_goals exact ⟨by simp, by assumption⟩
set_option maxRecDepth 100000 in
theorem fnEnumValue_any (s : ByteArray) (w : World) :
    Calls Tryd.prog 4 #[.string s] w fun e w' => e = .returned (.bool true) ∧ Below w.heap.size w w' := by
  have hb0 : Below w.heap.size w w := Below.refl _ _
  rcases hp : plainB s with _ | _
  all_goals
    have HP := hid hp
    clear hp
    go_enter Tryd.func4, Tryd.ntmps4
    go_wp2_with (first | (go_at_call 7; refine ((HP.out ▸ plain_any s _ (by omega))).mono ?_; rintro e w' ⟨rfl, rfl⟩) | (go_at_call 10; refine (implEnumValue _ _ (by omega) HP.out).mono ?_; rintro e w1 ⟨rfl, hb1⟩; replace hb1 := below_comp (by assumption) hb1) | (go_at_call 11; refine (specEnumValue _ _ (by omega)).mono ?_; rintro e w1 ⟨rfl, hb1⟩; replace hb1 := below_comp (by assumption) hb1))
    all_goals go_ret
    all_goals exact ⟨by simp, by assumption⟩
end Go.Proofs.YtnammoimjcgdmaaDoor
