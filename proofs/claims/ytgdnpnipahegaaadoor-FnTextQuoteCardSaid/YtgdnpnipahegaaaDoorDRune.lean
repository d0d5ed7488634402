/-
  The library's DecodeRune on bytes; where a string needs an escape.
-/
import Derived.Test.YtgdnpnipahegaaaDoorDDecode
import Derived.Lib.OthersKept
namespace Go.Proofs.YtgdnpnipahegaaaDoor
open Go.ChangeShapes Go.WideShapes Go.ChangeAt Go.RowKit Go.Lib

theorem decV_ascii (c : UInt8) (l : List UInt8) (h : c.toNat < 128) : decV (c :: l) = .tuple #[.int .i32 (c.toNat : Int), .int .i64 1] := by
  unfold decV chr; rw [u8char_cons, if_pos h]; rfl
set_option maxRecDepth 100000 in
set_option maxHeartbeats 1000000 in
theorem decodeRune_any (v : Value) (l : List UInt8) (g : Nat) (w : World) (hv : View w g v l) (hne : l ≠ []) (hm : l.length ≤ 100000000) (hT : Lib.Utf8Tabs 1 2 w) :
    Calls Tryd.prog 21 #[v] w fun e w' => e = .returned (decV l) ∧ Below w.heap.size w w' := by
  have HS := hid (decodeRuneSlow_any v l g w hv hne hm hT)
  obtain ⟨ao, cap, rfl, hlc, hcm, hn0, off, hao, hcell⟩ := hv
  obtain rfl := hao hne
  obtain ⟨c, l, rfl⟩ := List.exists_cons_of_ne_nil hne
  have c0 : w.cell? ⟨g, off, none⟩ = some (.int .u8 (c.toNat : Int)) := hcell 0 (by simp)
  have bc := byte_bd c
  have hz0 : (0 : Int) < ((c :: l).length : Int) := by simp <;> omega
  clear hcell hao hn0 hne hT
  by_cases h128 : c.toNat < 128
  · have HF := hid (decV_ascii c l h128)
    have hlt : (c.toNat : Int) < 128 := by omega
    generalize (c :: l).length = n at *
    go_enter Tryd.func21, Tryd.ntmps21
    go_wp2_with fail
    go_loop [8] (fun i => i = .int .i64 0) (fun _ => 0)
    case atStart => rfl
    case round =>
      subst hrel
      go_wp2_with fail
      go_ret2
      exact ⟨by rw [HF.out]; rfl, Below.refl _ _⟩
  · have hlt : ¬ (c.toNat : Int) < 128 := by omega
    unfold decV at HS ⊢
    generalize (chr (c :: l)).1 = r1 at *
    generalize (chr (c :: l)).2 = r2 at *
    generalize (c :: l).length = n at *
    clear h128
    go_enter Tryd.func21, Tryd.ntmps21
    go_wp2_with fail
    go_loop [8] (fun i => i = .int .i64 0) (fun _ => 0)
    case atStart => rfl
    case round =>
      subst hrel
      go_wp2_with (first | (go_at_call 35; refine (Calls.mono HS.out ?_); rintro e w1 ⟨rfl, hb1⟩) | fail)
      go_ret2
      exact ⟨rfl, hb1⟩

theorem iterPos_of {w : World} {k : Nat} {s : ByteArray} {p : Nat} (h : w.heap[k]? = some (.stringIter s p)) : w.iterPos k = p := by simp [World.iterPos, h]
theorem get!_list (l : List UInt8) (k : Nat) : (⟨l.toArray⟩ : ByteArray).get! k = l.getD k 0 := by
  show (l.toArray)[k]! = _
  simp [List.getD_eq_getElem?_getD, getElem!_def]
  cases l[k]? <;> rfl
theorem getD_drop (l : List UInt8) (k j : Nat) : (l.drop k).getD j 0 = l.getD (k + j) 0 := by
  simp [List.getD_eq_getElem?_getD, List.getElem?_drop]
/-- the model's decoder at a place of a string -/
theorem decode_chr (l : List UInt8) (k : Nat) (h : k < l.length) : Utf8.decode ⟨l.toArray⟩ k = chr (l.drop k) := by
  rw [← dec_eq _ (by intro e; have := congrArg List.length e; simp at this; omega), Lib.decode_at, get!_list, get!_list, get!_list, get!_list]
  unfold dec
  rw [getD_drop, getD_drop, getD_drop, getD_drop, List.length_drop, size_mk]
  simp only [Nat.add_zero]
theorem chr_pos {l : List UInt8} (h : l ≠ []) : 1 ≤ (chr l).2 ∧ (chr l).2 ≤ l.length := by
  have hl := List.length_pos_iff.2 h
  unfold chr
  rcases hu : u8char l with _ | ⟨c, n⟩
  · simp only; omega
  · have := u8char_size hu; simp only; omega

end Go.Proofs.YtgdnpnipahegaaaDoor
