/-
  strconv.ParseUint at base 16, of four bytes.
-/
import Derived.Test.YtgdnpnipahegaaaDoorDRune
import Derived.Lib.IfaceEq
import Derived.Lib.Strings
import Derived.Lib.UnsafeStr
import Derived.Lib.Hide
import Derived.Laws.MakeOwn
import Derived.Lib.BufferWrite
import Derived.Lib.AtoiErrMem
import Derived.Deep.RegionWith
import Derived.BigCall
import Derived.BigGuard
namespace Go.Proofs.YtgdnpnipahegaaaDoor
open Go.ChangeShapes Go.WideShapes Go.ChangeAt Go.RowKit Go.Lib

theorem info5u : (Tryd.prog.info? 5).map (fun i => (i.zero, i.size, i.bytes)) = some (some (.int .u8 0), 1, 1) := by kernel_rfl
/-- The byte with its bit 32 set. -/
def lowN (n : Nat) : Nat := if n / 32 % 2 = 1 then n else n + 32
theorem low_all : ((List.range 256).all fun n => decide (bits .or .u8 (n : Int) 32 = (lowN n : Int))) = true := by kernel_rfl
theorem b_or32 (c : UInt8) : bits .or .u8 (c.toNat : Int) 32 = (lowN c.toNat : Int) := by
  have h := List.all_eq_true.1 low_all c.toNat (List.mem_range.2 (by have := byte_bd c; omega))
  exact of_decide_eq_true h
/-- A hexadecimal digit's value; 16 if it is none. -/
def hexV (n : Nat) : Nat := if 48 ≤ n ∧ n ≤ 57 then n - 48 else if 97 ≤ lowN n ∧ lowN n ≤ 122 then min 16 (lowN n - 87) else 16
set_option maxRecDepth 100000 in
set_option maxHeartbeats 1000000 in
theorem lower_any (c : UInt8) (w : World) : Calls Tryd.prog 49 #[.int .u8 (c.toNat : Int)] w fun e w' => e = .returned (.int .u8 (lowN c.toNat : Int)) ∧ w = w' := by
  have HB := hid (b_or32 c)
  go_enter Tryd.func49, Tryd.ntmps49
  go_wp2
  go_ret
  exact ⟨by first | rfl | (rw [HB.out]; rfl), rfl⟩

set_option maxRecDepth 100000 in
set_option maxHeartbeats 2000000 in
theorem clone_any (s : ByteArray) (w : World) (hlim : s.size ≤ 281474976710656) :
    Calls Tryd.prog 60 #[.string s] w fun e w' => e = .returned (.string s) ∧ Below w.heap.size w w' := by
  by_cases h0 : s.size = 0
  · have hs : s = ⟨#[]⟩ := by
      apply ByteArray.ext
      exact Array.eq_empty_of_size_eq_zero h0
    subst hs
    go_enter Tryd.func60, Tryd.ntmps60
    go_wp2
    go_ret
    exact ⟨rfl, Below.refl _ _⟩
  · have hi5 : ∃ i0, Tryd.prog.info? 5 = some i0 ∧ i0.zero = some (.int .u8 0) ∧ i0.size = 1 ∧ i0.bytes = 1 := by
      have h := info5u
      cases hq : Tryd.prog.info? 5 with
      | none => rw [hq] at h; simp at h
      | some i => rw [hq] at h; simp only [Option.map_some, Option.some.injEq, Prod.mk.injEq] at h; exact ⟨i, rfl, h⟩
    obtain ⟨i0, hi, hz0, hz1, hz2⟩ := hi5
    have hinfo : (Tryd.prog.info? 5).map (·.size) = some 1 := by rw [hi]; simp [hz1]
    have hco : Tryd.prog.cellsOf 5 = 1 := by simp [Program.cellsOf, hi, hz1]
    obtain ⟨M, hM⟩ : ∃ M, M = madeCells (Value.int .u8 0).cells (((s.size : Nat) : Int).toNat * i0.size) := ⟨_, rfl⟩
    have hMs : M.size = s.size := by rw [hM, size_madeCells, hz1]; simp
    have hmk : ∀ W : World, (Instr.makeSlice 27 (.int .i64 (s.size : Int)) (.int .i64 (s.size : Int))).run Tryd.prog W = .ok (.slice (some ⟨W.heap.size, 0, none⟩) s.size s.size) (W.alloc (.cells M 5)) := fun W => by
      have h := run_make (P := Tryd.prog) W 27 5 i0 (.int .u8 0) Tryd.underlying27 hi hz0 .i64 .i64 (s.size : Int) (s.size : Int) (by omega) (by omega) (by rw [hz2]; omega) (by omega)
      rw [← hM] at h
      simpa using h
    clear hM
    have hcp := Lib.run_copy_row_string (P := Tryd.prog) (w.alloc (.cells M 5)) 27 9 3 5 w.heap.size 0 s.size s.size s M 5 Tryd.underlying27 hinfo (heap_alloc_new w _) (Nat.le_refl _) (by omega)
    obtain ⟨Y, hY⟩ : ∃ Y, Y = (M.toList.take 0 ++ Lib.byteCells s.data.toList ++ M.toList.drop (0 + s.size)).toArray := ⟨_, rfl⟩
    rw [← hY] at hcp
    have hYl : Y.toList = Lib.byteCells s.data.toList := by
      rw [hY, List.toList_toArray, List.take_zero, List.nil_append, List.drop_of_length_le (by rw [Array.length_toList]; omega), List.append_nil]
    have hYs : Y.size = s.size := by rw [← Array.length_toList, hYl, Lib.byteCells_length, ← Lib.size_eq]
    have hgY : ((w.alloc (.cells M 5)).setRow w.heap.size Y).heap[w.heap.size]? = some (.cells Y 5 (0, 0)) := setRow_heap _ _ M _ 5 (0, 0) (heap_alloc_new w _)
    have hne : s.data.toList ≠ [] := fun e => h0 (by rw [Lib.size_eq, e]; rfl)
    have hUS := Lib.run_unsafeString_row (P := Tryd.prog) ((w.alloc (.cells M 5)).setRow w.heap.size Y) 113 3 9 5 Tryd.underlying113 hco w.heap.size Y.size (by unfold World.shape?; rw [hgY]) s.data.toList hne (by rw [← Lib.size_eq]; omega) (by rw [← Lib.size_eq]; omega)
      (fun j x hx => Lib.cells_of_row hgY Y.size j _ (by rw [List.take_of_length_le (by rw [Array.length_toList]; exact Nat.le_refl _), hYl]; simp [Lib.byteCells, hx]))
    rw [← Lib.size_eq] at hUS
    clear hY
    go_enter Tryd.func60, Tryd.ntmps60
    go_wp2
    go_ret
    have hb1 : Below w.heap.size w (w.alloc (.cells M 5)) := (Below.refl _ w).alloc (Nat.le_refl _) _
    have hb2 : Below w.heap.size (w.alloc (.cells M 5)) ((w.alloc (.cells M 5)).setRow w.heap.size Y) := ⟨rfl, rfl, rfl, by simp, fun k hk => setRow_other _ _ _ _ (by omega)⟩
    exact ⟨rfl, Lib.below_freeze (hb1.trans hb2) (p := ⟨w.heap.size, 0, none⟩) (Nat.le_refl _) _⟩
/-- A package's error variable holds an error. -/
def ErrVar (G : Nat) (w : World) : Prop := ∃ te pe, w.cell? ⟨G, 0, none⟩ = some (.iface te pe)
theorem ErrVar.below {G : Nat} {w w' : World} (h : ErrVar G w) (b : Below w.heap.size w w') : ErrVar G w' := by
  obtain ⟨te, pe, hc⟩ := h
  exact ⟨te, pe, (b.cell (show (⟨G, 0, none⟩ : Addr).block < w.heap.size from Lib.lt_of_cell hc)).trans hc⟩
set_option maxRecDepth 100000 in
set_option maxHeartbeats 2000000 in
theorem syntaxError_any (fn s : ByteArray) (w : World) (hlim : s.size ≤ 281474976710656) (hv : ErrVar 3 w) :
    Calls Tryd.prog 51 #[.string fn, .string s] w fun e w' => ∃ N, e = .returned (.pointer (some ⟨N, 0, none⟩)) ∧ Below w.heap.size w w' := by
  obtain ⟨te, pe, hv⟩ := hv
  have hG : 3 < w.heap.size := Lib.lt_of_cell hv
  have hvd : w.drew.cell? ⟨3, 0, none⟩ = some (.iface te pe) := hv
  go_enter Tryd.func51, Tryd.ntmps51
  go_wp2
  go_region_with (
      go_at_call 60
      refine (clone_any s _ hlim).mono ?_
      rintro e w2 ⟨rfl, hbel⟩
      have hv2 : w2.cell? ⟨3, 0, none⟩ = some (.iface te pe) := (hbel.cell (show (⟨3, 0, none⟩ : Addr).block < w.drew.heap.size from hG)).trans hvd)
  all_goals (
    go_wp2
    go_ret
    have hs2 : w.heap.size ≤ w2.heap.size := hbel.size
    exact ⟨_, rfl, ((Below.drew (Below.refl _ w)).trans hbel).alloc hs2 _⟩)
set_option maxRecDepth 100000 in
set_option maxHeartbeats 2000000 in
theorem toError_any (fn s : ByteArray) (base bs : Int) (w : World) (hlim : s.size ≤ 281474976710656) (hv : ErrVar 3 w) :
    Calls Tryd.prog 43 #[.string fn, .string s, .int .i64 base, .int .i64 bs, .iface 92 (.int .i64 2)] w fun e w' => ∃ N, e = .returned (.iface 94 (.pointer (some ⟨N, 0, none⟩))) ∧ Below w.heap.size w w' := by
  have heq : ∀ W, (binOp .eql 36 (.iface 92 (.int .i64 2)) (.iface 92 (.int .i64 2))).run Tryd.prog W = .ok (.bool true) W := fun W => Lib.run_eql_iface_int W 2 2 Tryd.underlying36 (by kernel_rfl) Tryd.underlying92
  go_enter Tryd.func43, Tryd.ntmps43
  go_wp2_with (go_at_call 51; refine (syntaxError_any fn s _ hlim hv).mono ?_; rintro e w2 ⟨N, rfl, hb⟩)
  go_ret
  exact ⟨N, rfl, hb⟩
end Go.Proofs.YtgdnpnipahegaaaDoor
