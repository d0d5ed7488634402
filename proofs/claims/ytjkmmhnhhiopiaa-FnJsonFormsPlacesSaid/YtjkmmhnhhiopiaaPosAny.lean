/-
  The line and the column of any place: the column is some number.
-/
import Derived.Test.YtjkmmhnhhiopiaaPosImpl
import Derived.Lib.OthersKept
namespace Go.Proofs.Ytjkmmhnhhiopiaa
open Go.ChangeShapes Go.WideShapes Go.ChangeAt Go.RowKit

theorem iterPos_of {w : World} {k : Nat} {s : ByteArray} {p : Nat} (h : w.heap[k]? = some (.stringIter s p)) : w.iterPos k = p := by simp [World.iterPos, h]
theorem decode_pos (s : ByteArray) (pos : Nat) (h : pos < s.size) : 1 ≤ (Utf8.decode s pos).2 := by
  by_cases ha : (s[pos]'h).toNat < 128
  · rw [decode_ascii s pos h ha]; exact Nat.le_refl _
  · exact (decode_high s pos h (by omega)).2

set_option maxRecDepth 100000 in
theorem runesIn_some (s : ByteArray) (w : World) (hs : s.size ≤ 1000000) :
    Calls Try.prog 27 #[.string s] w fun e w' => (∃ c : Nat, c ≤ s.size ∧ e = .returned (.int .i64 c)) ∧ Below w.heap.size w w' := by
  go_enter Try.func27, Try.ntmps27
  go_wp2
  go_loopw [2] (fun n wr => ∃ c k : Nat, n = .int .i64 c ∧ c ≤ k ∧ c ≤ s.size ∧ wr.heap[w.heap.size]? = some (.stringIter s k) ∧ Below w.heap.size w wr) (fun _ wr => s.size - wr.iterPos w.heap.size)
  case atStart => exact ⟨0, 0, rfl, Nat.le_refl _, Nat.zero_le _, World.iter_heap w _ 0, (Below.refl _ _).alloc (Nat.le_refl _) _⟩
  case round =>
    obtain ⟨c, k, rfl, hck, hcs, hit, hb⟩ := hrel
    have hmu := iterPos_of hit
    by_cases hlt : k < s.size
    · have hnx := fun ty => Lib.run_next_any_at (P := Try.prog) wr w.heap.size s k ty hit hlt
      have hwd := decode_pos s k hlt
      have hheap2 := Lib.iterAt_heap wr w.heap.size s k (k + (Utf8.decode s k).2) hit
      have hb2 := Lib.below_iterAt hb (Nat.le_refl _) s (k + (Utf8.decode s k).2)
      generalize Utf8.decode s k = dc at *
      obtain ⟨rn, wd⟩ := dc
      simp only at hnx hwd hheap2 hb2
      go_wp2_with fail
      go_roundw
      case rel => exact ⟨c + 1, k + wd, by go_num, by omega, by omega, hheap2, hb2⟩
      case measure => rw [iterPos_of hheap2]; omega
    · have hnx := fun ty => Lib.run_next_end_at (P := Try.prog) wr w.heap.size s k ty hit hlt
      go_wp2_with fail
      go_ret
      exact ⟨⟨c, hcs, rfl⟩, hb⟩

set_option maxRecDepth 100000 in
theorem runeCount_some (v : Value) (bs : List UInt8) (g : Nat) (w : World) (hv : View w g v bs) (hm : bs.length ≤ 1000000) :
    Calls Try.prog 23 #[v] w fun e w' => (∃ c : Nat, c ≤ bs.length ∧ e = .returned (.int .i64 c)) ∧ Below w.heap.size w w' := by
  have hb0 := Below.refl w.heap.size w
  go_enter Try.func23, Try.ntmps23
  go_wp2_with (refine wpList_len_view _ rfl _ 25 5 rfl Try.underlying25 _ _ _ rfl (by assumption) ?_)
  go_loop [4] (fun i => ∃ k : Nat, k ≤ bs.length ∧ i = .int .i64 k) (fun i => bs.length - (intOf i).toNat)
  case atStart => exact ⟨0, by omega, rfl⟩
  case round =>
    obtain ⟨k, hk, rfl⟩ := hrel
    by_cases hlt : k < bs.length
    · by_cases hc : (bs[k].toNat : Int) < 128
      · go_wp2_with (refine wpList_index_view _ rfl _ _ 25 5 rfl Try.underlying25 Try.info5 _ _ _ rfl (by assumption) _ _ rfl (by omega) (by omega) ?_; intro ad1 hc1)
        go_round
        case rel => exact ⟨k + 1, by omega, by go_num⟩
        case measure => simp [intOf]; omega
      · go_wp2_with (first | (refine wpList_index_view _ rfl _ _ 25 5 rfl Try.underlying25 Try.info5 _ _ _ rfl (by assumption) _ _ rfl (by omega) (by omega) ?_; intro ad1 hc1) | (refine wpList_slice_from _ rfl _ _ 25 5 rfl Try.underlying25 Try.info5 _ _ _ rfl (by assumption) _ _ rfl (by omega) (by omega) ?_; intro vs1 hvs1; try simp only [Int.toNat_natCast] at hvs1) | (refine wpList_string_view _ rfl _ 25 9 5 rfl Try.underlying25 Try.underlying5 Try.underlying9 _ _ _ rfl hvs1 ?_) | (go_at_call 27; refine (runesIn_some _ _ (by rw [size_mk]; simp; omega)).mono ?_; rintro e w1 ⟨⟨c1, hc1, rfl⟩, hb1⟩; rw [size_mk, List.length_drop] at hc1))
        go_ret
        exact ⟨⟨k + c1, by omega, by simp⟩, hb1⟩
    · have hk2 : k = bs.length := by omega
      subst hk2
      go_wp2
      go_ret
      exact ⟨⟨_, Nat.le_refl _, rfl⟩, hb0⟩

set_option maxRecDepth 100000 in
set_option maxHeartbeats 1000000 in
theorem positionJ_gen (gd : Nat) (v : Value) (bs : List UInt8) (g : Nat) (w : World) (n : Nat) (hc : w.cell? ⟨gd, 8, none⟩ = some v) (hv : View w g v bs) (hn : n ≤ bs.length) (hm : bs.length ≤ 1000000) :
    Calls Try.prog 15 #[.pointer (some ⟨gd, 0, none⟩), .int .i64 n] w fun e w' => (∃ c : Nat, e = .returned (.tuple #[.int .i64 (1 + ((place (bs.take n)).1 : Int)), .int .i64 (1 + (c : Int))])) ∧ Below w.heap.size w w' := by
  obtain ⟨r, hr⟩ := last_exists (bs.take n)
  have hp := place_last hr
  have hpl := place_len (bs.take n)
  have htl : (bs.take n).length ≤ n := List.length_take_le _ _
  have HR := hid hr
  have hr2 : r = -1 ∨ ∃ k : Nat, r = k := by
    rcases hr with ⟨h, _⟩ | ⟨k, h, _⟩
    · exact .inl h
    · exact .inr ⟨k, h⟩
  clear hr
  rcases hr2 with rfl | ⟨k, rfl⟩
  · clear hp
    go_enter Try.func15, Try.ntmps15
    go_wp2_with (first | (refine wpList_slice_to _ rfl _ _ 25 5 rfl Try.underlying25 Try.info5 _ _ _ rfl (by assumption) _ _ rfl (by omega) (by omega) ?_; intro vs1 hvs1; try simp only [Int.toNat_natCast] at hvs1) | (go_at_call 21; refine (countJ_any _ _ _ _ hvs1 (by omega)).mono ?_; rintro e w' ⟨rfl, rfl⟩) | (go_at_call 22; refine (lastIndexByte_any _ _ _ _ hvs1 (by omega) _ HR.out).mono ?_; rintro e w' ⟨rfl, rfl⟩) | (go_at_call 23; refine (runeCount_some _ _ _ _ hvs1 (by omega)).mono ?_; rintro e w1 ⟨⟨c1, hc1, rfl⟩, hb1⟩; have hc2 : c1 ≤ 1000000 := Nat.le_trans hc1 (by simp; omega)))
    go_ret2
    exact ⟨⟨c1, by simp <;> omega⟩, hb1⟩
  · have hk := (hp.2 k rfl).2
    clear hp
    go_enter Try.func15, Try.ntmps15
    go_wp2_with (first | (refine wpList_slice_to _ rfl _ _ 25 5 rfl Try.underlying25 Try.info5 _ _ _ rfl (by assumption) _ _ rfl (by omega) (by omega) ?_; intro vs1 hvs1; try simp only [Int.toNat_natCast] at hvs1) | (go_at_call 21; refine (countJ_any _ _ _ _ hvs1 (by omega)).mono ?_; rintro e w' ⟨rfl, rfl⟩) | (go_at_call 22; refine (lastIndexByte_any _ _ _ _ hvs1 (by omega) _ HR.out).mono ?_; rintro e w' ⟨rfl, rfl⟩) | (refine wpList_slice_from _ rfl _ _ 25 5 rfl Try.underlying25 Try.info5 _ _ _ rfl hvs1 _ _ rfl (by omega) (by omega) ?_; intro vs2 hvs2; rw [show ((k : Int) + 1).toNat = k + 1 by omega] at hvs2) | (go_at_call 23; refine (runeCount_some _ _ _ _ hvs2 (by simp; omega)).mono ?_; rintro e w1 ⟨⟨c1, hc1, rfl⟩, hb1⟩; have hc2 : c1 ≤ 1000000 := Nat.le_trans hc1 (by simp; omega)))
    go_ret2
    exact ⟨⟨c1, by simp <;> omega⟩, hb1⟩

set_option maxRecDepth 100000 in
set_option maxHeartbeats 1000000 in
theorem jsonPosition_gen (v : Value) (bs : List UInt8) (g : Nat) (w : World) (n : Nat) (hv : View w g v bs) (hn : n ≤ bs.length) (hm : bs.length ≤ 1000000) :
    Calls Try.prog 8 #[v, .int .i64 n] w fun e w' => (∃ c : Nat, e = .returned (.tuple #[.int .i64 (1 + ((place (bs.take n)).1 : Int)), .int .i64 (1 + (c : Int)), .bool true])) ∧ Below w.heap.size w w' := by
  have hmf : ∀ (fn : Fn) (first cap : Array Value) (w : World), (Instr.makeFunc fn first cap).run Try.prog w = .ok (.func fn first cap) w := fun _ _ _ _ => rfl
  go_enter_defers Try.func8, Try.ntmps8
  go_wp2_with fail
  refine (copied_any _ bs g _ ?_ (by omega)).mono ?_
  · exact ((hv.alloc _).alloc _).alloc _
  · rintro e w1 ⟨v1, g1, rfl, hv1, hg1, hb1⟩
    have hb0 : Below w.heap.size w w1 := ((((Below.refl _ _).alloc (Nat.le_refl _) _).alloc (by simp) _).alloc (by simp; omega) _).trans (hb1.mono (by simp; omega))
    have hsz : w.heap.size + 1 + 1 + 1 ≤ w1.heap.size := by have := hb1.size; simpa using this
    obtain ⟨hc, hf⟩ := bcell hb1
    obtain ⟨ao, cap, rfl⟩ := hv1.slice
    have c0 : w1.cell? ⟨w.heap.size, 0, none⟩ = some (.int .i64 0) := by rw [hc _ _ (by simp <;> omega)]; simp [go_sem]
    have c1 : w1.cell? ⟨w.heap.size + 1, 0, none⟩ = some (.int .i64 0) := by rw [hc _ _ (by simp <;> omega)]; simp [go_sem]
    have c2 : w1.cell? ⟨w.heap.size + 1 + 1, 0, none⟩ = some (.bool false) := by rw [hc _ _ (by simp <;> omega)]; simp [go_sem]
    have f0 : w1.frozen? ⟨w.heap.size, 0, none⟩ = false := by rw [hf _ _ (by simp <;> omega)]; simp [go_sem]
    have f1 : w1.frozen? ⟨w.heap.size + 1, 0, none⟩ = false := by rw [hf _ _ (by simp <;> omega)]; simp [go_sem]
    have f2 : w1.frozen? ⟨w.heap.size + 1 + 1, 0, none⟩ = false := by rw [hf _ _ (by simp <;> omega)]; simp [go_sem]
    clear hc hf hb1
    go_wp2_with (first | (go_at_call 13; go_in) | fail)
    refine (positionJ_gen _ _ bs g1 _ n ?_ (hv1.alloc _) hn hm).mono ?_
    · simp [go_sem]
    · rintro e w2 ⟨⟨cc, rfl⟩, hb2⟩
      replace hb2 := below_comp ((Below.refl _ _).alloc (Nat.le_refl _) _) hb2
      obtain ⟨hc, hf⟩ := bcell hb2
      replace c0 := (hc w.heap.size 0 (by omega)).trans c0
      replace c1 := (hc (w.heap.size + 1) 0 (by omega)).trans c1
      replace c2 := (hc (w.heap.size + 1 + 1) 0 (by omega)).trans c2
      replace f0 := (hf w.heap.size 0 (by omega)).trans f0
      replace f1 := (hf (w.heap.size + 1) 0 (by omega)).trans f1
      replace f2 := (hf (w.heap.size + 1 + 1) 0 (by omega)).trans f2
      replace hb0 := hb0.trans (hb2.mono (by omega))
      clear hc hf hv1 hv hb2
      go_wp2
      go_region
      go_wp2
      refine leaves_cons (f := 12) (args := #[.pointer (some ⟨w.heap.size, 0, none⟩), .pointer (some ⟨w.heap.size + 1, 0, none⟩), .pointer (some ⟨w.heap.size + 1 + 1, 0, none⟩)]) (by simp) (by simp [go_sem]) ?_
      refine (catchJ_idle _ _ _ _).mono ?_
      rintro e u' w3 ⟨rfl, rfl, hw3⟩
      have k := three_cells w2 ⟨w.heap.size, 0, none⟩ ⟨w.heap.size + 1, 0, none⟩ ⟨w.heap.size + 1 + 1, 0, none⟩ (by simp) (by simp) (by simp) c0 c1 c2 (.int .i64 (1 + ((place (bs.take n)).1 : Int))) (.int .i64 (1 + (cc : Int))) (.bool true)
      have k0 : w3.cell? ⟨w.heap.size, 0, none⟩ = some (.int .i64 (1 + ((place (bs.take n)).1 : Int))) := by rw [hw3, drew_cell]; exact k.1
      have k1 : w3.cell? ⟨w.heap.size + 1, 0, none⟩ = some (.int .i64 (1 + (cc : Int))) := by rw [hw3, drew_cell]; exact k.2.1
      have k2 : w3.cell? ⟨w.heap.size + 1 + 1, 0, none⟩ = some (.bool true) := by rw [hw3, drew_cell]; exact k.2.2
      have kb : Below w.heap.size w w3 := by
        rw [hw3]
        refine Below.drew ?_
        iterate 5 refine Below.setCell ?_ (by simp <;> omega) _
        exact hb0
      clear hw3 k c0 c1 c2 f0 f1 f2 hb0
      simp [Leaves, settle, results, Try.results8, go_sem, k0, k1, k2]
      exact ⟨⟨cc, rfl⟩, kb⟩
end Go.Proofs.Ytjkmmhnhhiopiaa
