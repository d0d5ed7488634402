/-
  The reference's reader of the text form, walked: its state in memory; a byte ahead; a digit; whether bytes are UTF-8; a character's bytes.
-/
import Derived.Test.YtgdnpnipahegaaaDoorTRef
import Derived.Test.YtgdnpnipahegaaaDoorTParts
import Derived.Test.YtgdnpnipahegaaaDoorTState
import Derived.Test.YtgdnpnipahegaaaDoorUtf8SizeWalk
namespace Go.Proofs.YtgdnpnipahegaaaDoor
open Go.ChangeShapes Go.WideShapes Go.ChangeAt Go.RowKit

theorem view_open {w : World} {g : Nat} {v : Value} {bs : List UInt8} (h : View w g v bs) : ∃ ao cap, v = .slice ao bs.length cap ∧ ∀ j (hj : j < bs.length), ∃ o, ao = some ⟨g, o, none⟩ ∧ w.cell? ⟨g, o + j, none⟩ = some (.int .u8 (bs[j].toNat : Int)) := by
  obtain ⟨ao, cap, hv, h1, h2, hn0, off, h3, h4⟩ := h
  exact ⟨ao, cap, hv, fun j hj => ⟨off, h3 (by intro e; subst e; simp at hj), h4 j hj⟩⟩
/-- the reader lies in block p: the bytes, the place, what was told, no tokens -/
def tCells (vb : Value) (k : Nat) : List Value := [vb, .int .i64 (k : Int), .int .i64 1, .slice none 0 0]
structure TS (B p g : Nat) (vb : Value) (bs : List UInt8) (k : Nat) (w : World) : Prop where
  row : RowAt w p (tCells vb k)
  view : View w g vb bs
  le : k ≤ bs.length
  bp : B ≤ p
  gp : g ≠ p
  gl : g < w.heap.size
section
variable {B p g : Nat} {vb : Value} {bs : List UInt8} {k : Nat} {w : World}
theorem TS.lt (h : TS B p g vb bs k w) : p < w.heap.size := h.row.lt
theorem TS.c (h : TS B p g vb bs k w) : w.cell? ⟨p, 0, none⟩ = some vb ∧ w.cell? ⟨p, 1, none⟩ = some (.int .i64 (k : Int)) ∧ w.frozen? ⟨p, 1, none⟩ = false := ⟨(h.row 0 _ rfl).1, (h.row 1 _ rfl).1, (h.row 1 _ rfl).2⟩
theorem TS.kept {w' : World} (h : TS B p g vb bs k w) (hs : w.heap.size ≤ w'.heap.size) (hp : w'.heap[p]? = w.heap[p]?) (hg : w'.heap[g]? = w.heap[g]?) : TS B p g vb bs k w' :=
  { h with row := h.row.kept hp, view := h.view.kept hg, gl := Nat.lt_of_lt_of_le h.gl hs }
theorem TS.below {w' : World} (h : TS B p g vb bs k w) (hb : Below w.heap.size w w') : TS B p g vb bs k w' := h.kept hb.size (hb.block p h.lt) (hb.block g h.gl)
theorem TS.drewN (h : TS B p g vb bs k w) (n : Nat) : TS B p g vb bs k (w.drewN n) := h.below ⟨rfl, rfl, rfl, Nat.le_refl _, fun _ _ => rfl⟩
theorem TS.at (h : TS B p g vb bs k w) {j : Nat} (hj : j ≤ bs.length) : TS B p g vb bs j (w.setCell ⟨p, 1, none⟩ (.int .i64 (j : Int))) := by
  have hg := grownBy_set w p 1 (.int .i64 (j : Int))
  exact { row := by have := h.row.set 1 (by simp [tCells]) (.int .i64 (j : Int)); exact this
          view := h.view.kept (hg.block g h.gl (fun e => h.gp (by injection e)))
          le := hj
          bp := h.bp
          gp := h.gp
          gl := Nat.lt_of_lt_of_le h.gl hg.size }
end
def Drew (v : Value) (w : World) (e : Ending) (w' : World) : Prop := e = .returned v ∧ ∃ n, w' = w.drewN n
def byteAt (bs : List UInt8) (k : Nat) : Int := ((bs.getD k 0).toNat : Int)
theorem byteAt_lt {bs : List UInt8} {k : Nat} (h : k < bs.length) : byteAt bs k = (bs[k].toNat : Int) := by unfold byteAt; simp [List.getD_eq_getElem?_getD, List.getElem?_eq_getElem h]
theorem byteAt_ge {bs : List UInt8} {k : Nat} (h : bs.length ≤ k) : byteAt bs k = 0 := by unfold byteAt; simp [List.getD_eq_getElem?_getD, List.getElem?_eq_none h]
set_option maxRecDepth 100000 in
theorem peek_any {B p g : Nat} {vb : Value} {bs : List UInt8} {k : Nat} (w : World) (h : TS B p g vb bs k w) (hm : bs.length ≤ 100000000) :
    Calls Tryd.prog 17 #[.pointer (some ⟨p, 0, none⟩), .int .i64 0] w (Drew (.int .u8 (byteAt bs k)) w) := by
  obtain ⟨c0, c1, -⟩ := h.c
  obtain ⟨ao, cap, rfl, hcell⟩ := view_open h.view
  have hle := h.le
  have hw1 : IntKind.i64.wrap (k : Int) = (k : Int) := IntWalk.i64_in _ (by omega)
  by_cases hlt : k < bs.length
  · have HB := hid (byteAt_lt hlt)
    obtain ⟨o, rfl, hck⟩ := hcell k hlt
    have hltI : decide ((k : Int) < (bs.length : Int)) = true := by simp; omega
    generalize bs[k] = c at *
    clear h hcell
    go_enter Tryd.func17, Tryd.ntmps17
    go_wp2_with fail
    go_quiet (fail)
    go_wp2_with fail
    go_quiet (fail)
    go_wp2_with fail
    go_ret
    exact ⟨by rw [HB.out]; rfl, _, World.drewN_drewN ..⟩
  · have HB := hid (byteAt_ge (bs := bs) (k := k) (by omega))
    have hltI : decide ((k : Int) < (bs.length : Int)) = false := by simp; omega
    clear h hcell
    go_enter Tryd.func17, Tryd.ntmps17
    go_wp2_with fail
    go_quiet (fail)
    go_wp2_with fail
    go_ret
    exact ⟨by rw [HB.out]; rfl, _, rfl⟩
/-- a digit of base 16, or -1 -/
def hexI (z : Int) : Int := if 48 ≤ z ∧ z ≤ 57 then z - 48 else if 97 ≤ z ∧ z ≤ 102 then z - 87 else if 65 ≤ z ∧ z ≤ 70 then z - 55 else -1
set_option maxRecDepth 100000 in
theorem hex_any (z : Int) (w : World) (h0 : 0 ≤ z) (h1 : z < 256) : Calls Tryd.prog 18 #[.int .u8 z] w fun e w' => e = .returned (.int .i64 (hexI z)) ∧ w = w' := by
  by_cases a : 48 ≤ z ∧ z ≤ 57
  · have HH : Hid (hexI z = z - 48) := hid (by unfold hexI; rw [if_pos a])
    obtain ⟨a1, a2⟩ := a
    go_enter Tryd.func18, Tryd.ntmps18
    go_wp2_with fail
    go_ret
    exact ⟨by rw [HH.out]; rfl, rfl⟩
  · have hA : decide (48 ≤ z) = false ∨ decide (48 ≤ z) = true ∧ decide (z ≤ 57) = false := by simp; omega
    by_cases b : 97 ≤ z ∧ z ≤ 102
    · have HH : Hid (hexI z = z - 97 + 10) := hid (by unfold hexI; rw [if_neg a, if_pos b]; omega)
      obtain ⟨b1, b2⟩ := b
      clear a
      rcases hA with a1 | ⟨a1, a2⟩
      all_goals
        go_enter Tryd.func18, Tryd.ntmps18
        go_wp2_with fail
        go_ret
        exact ⟨by rw [HH.out]; rfl, rfl⟩
    · have hB : decide (97 ≤ z) = false ∨ decide (97 ≤ z) = true ∧ decide (z ≤ 102) = false := by simp; omega
      by_cases d : 65 ≤ z ∧ z ≤ 70
      · have HH : Hid (hexI z = z - 65 + 10) := hid (by unfold hexI; rw [if_neg a, if_neg b, if_pos d]; omega)
        obtain ⟨d1, d2⟩ := d
        clear a b
        rcases hA with a1 | ⟨a1, a2⟩ <;> rcases hB with b1 | ⟨b1, b2⟩
        all_goals
          first
            | (exfalso; simp at *; omega)
            | (go_enter Tryd.func18, Tryd.ntmps18
               go_wp2_with fail
               go_ret
               exact ⟨by rw [HH.out]; rfl, rfl⟩)
      · have hD : decide (65 ≤ z) = false ∨ decide (65 ≤ z) = true ∧ decide (z ≤ 70) = false := by simp; omega
        have HH : Hid (hexI z = -1) := hid (by unfold hexI; rw [if_neg a, if_neg b, if_neg d])
        clear a b d
        rcases hA with a1 | ⟨a1, a2⟩ <;> rcases hB with b1 | ⟨b1, b2⟩ <;> rcases hD with d1 | ⟨d1, d2⟩
        all_goals
          go_enter Tryd.func18, Tryd.ntmps18
          go_wp2_with fail
          go_ret
          exact ⟨by rw [HH.out]; rfl, rfl⟩
set_option maxRecDepth 100000 in
set_option maxHeartbeats 1000000 in
theorem utf8Valid_any (v : Value) (l : List UInt8) (g : Nat) (w : World) (hv : View w g v l) (hm : l.length ≤ 1000000) :
    Calls Tryd.prog 11 #[v] w fun e w' => e = .returned (.bool (utf8V l)) ∧ Below w.heap.size w w' := by
  have HV := hid hv
  clear hv
  go_enter Tryd.func11, Tryd.ntmps11
  go_wp2_with fail
  go_loopw [3] (fun i wr => ∃ k : Nat, k ≤ l.length ∧ i = .int .i64 (k : Int) ∧ utf8V l = utf8V (l.drop k) ∧ Below w.heap.size w wr) (fun i _ => l.length - (intOf i).toNat)
  case atStart => exact ⟨0, Nat.zero_le _, rfl, rfl, Below.refl _ _⟩
  case round =>
    obtain ⟨k, hk, rfl, hu, hb⟩ := hrel
    have HU := hid hu
    have HB := hid hb
    have HVR := hid (HV.out.below hb)
    clear hu hb
    by_cases hlt : k < l.length
    · have hkI : (k : Int) ≤ (l.length : Int) := by omega
      have hltI : decide ((k : Int) < (l.length : Int)) = true := by simp; omega
      have hltN : decide (k < l.length) = true := by simp; omega
      rcases hd : l.drop k with _ | ⟨c, r⟩
      · exfalso; have := congrArg List.length hd; simp at this; omega
      · have hcl : (c :: r).length ≤ 1000000 := by rw [← hd]; simp; omega
        have hkr : k + (r.length + 1) = l.length := by have := congrArg List.length hd; simp at this; omega
        have HSZ := hid (size2_eq (c :: r))
        have HD := hid hd
        clear hd
        rcases hu : u8char (c :: r) with _ | ⟨x, n⟩
        · have HZ : Hid (size2 (c :: r) = 0) := hid (by rw [← HSZ.out]; unfold u8size; rw [hu])
          have HF : Hid (utf8V l = false) := hid (by rw [HU.out, HD.out]; exact utf8V_none (by simp) hu)
          clear hu
          go_wp2_with (first
            | ((with_reducible refine is_len ?_); refine wpList_len_view _ (by rfl) _ 27 5 rfl Tryd.underlying27 _ _ _ rfl HVR.out ?_)
            | ((with_reducible refine is_from ?_); refine wpList_slice_from _ (by rfl) _ _ 27 5 rfl Tryd.underlying27 info5u _ _ _ rfl HVR.out _ _ rfl (by omega) hkI ?_; intro vs1 hvs1; rw [Int.toNat_natCast, HD.out] at hvs1)
            | (go_at_call 16; refine (utf8Size_any _ c r g _ hvs1 hcl).mono ?_; rintro e w1 ⟨rfl, hb1⟩; rw [HZ.out])
            | fail)
          go_ret
          exact ⟨by rw [HF.out]; rfl, below_comp HB.out hb1⟩
        · have hn := u8char_size hu
          have HZ : Hid (size2 (c :: r) = n) := hid (by rw [← HSZ.out]; unfold u8size; rw [hu])
          have HF : Hid (utf8V l = utf8V (l.drop (k + n))) := hid (by rw [HU.out, HD.out, utf8V_some hu, ← HD.out, List.drop_drop])
          have hn1 : 1 ≤ n := hn.1
          have hn2 : n ≤ r.length + 1 := by simpa using hn.2.1
          have hnz : ((n : Int) == 0) = false := by simp; omega
          clear hu hn
          go_wp2_with (first
            | ((with_reducible refine is_len ?_); refine wpList_len_view _ (by rfl) _ 27 5 rfl Tryd.underlying27 _ _ _ rfl HVR.out ?_)
            | ((with_reducible refine is_from ?_); refine wpList_slice_from _ (by rfl) _ _ 27 5 rfl Tryd.underlying27 info5u _ _ _ rfl HVR.out _ _ rfl (by omega) hkI ?_; intro vs1 hvs1; rw [Int.toNat_natCast, HD.out] at hvs1)
            | (go_at_call 16; refine (utf8Size_any _ c r g _ hvs1 hcl).mono ?_; rintro e w1 ⟨rfl, hb1⟩; rw [HZ.out])
            | fail)
          go_roundw
          case rel => exact ⟨k + n, by omega, by go_num, HF.out, below_comp HB.out hb1⟩
          case measure => simp [intOf]; omega
    · have HF : Hid (utf8V l = true) := hid (by rw [HU.out, List.drop_of_length_le (by omega)]; rfl)
      have hltN : decide (k < l.length) = false := by simp; omega
      have hltI : decide ((k : Int) < (l.length : Int)) = false := by simp; omega
      go_wp2_with (first
        | ((with_reducible refine is_len ?_); refine wpList_len_view _ (by rfl) _ 27 5 rfl Tryd.underlying27 _ _ _ rfl HVR.out ?_)
        | fail)
      go_ret
      exact ⟨by rw [HF.out]; rfl, HB.out⟩
set_option maxRecDepth 100000 in
theorem utf8small_any (c : Nat) (w : World) (hc : c < 2097152) :
    Calls Tryd.prog 33 #[.int .i64 c] w fun e w' => (∃ v, e = .returned v ∧ View w' w.heap.size v (encU c)) ∧ Below w.heap.size w w' := by
  have hb0 := Below.refl w.heap.size w
  by_cases h1 : (c : Int) < 128
  · have HE : Hid (encU c = [UInt8.ofNat c]) := hid (by unfold encU; rw [if_pos (by omega)])
    go_enter Tryd.func33, Tryd.ntmps33
    go_wp2_with fail
    go_ret
    refine ⟨⟨_, rfl, ?_⟩, hb0.alloc (Nat.le_refl _) _⟩
    rw [HE.out]
    exact view_new w [UInt8.ofNat c] _ _ (by simp [byteCells]; omega) (by simp [maxLen])
  · have hB := i64_and63 (x := c) (by omega) (by omega)
    have hC := i64_or128 (y := (c : Int) % 64) (by omega) (by omega)
    have hB2 := i64_and63 (x := (c : Int) / 64) (by omega) (by omega)
    have hC2 := i64_or128 (y := (c : Int) / 64 % 64) (by omega) (by omega)
    have hB3 := i64_and63 (x := (c : Int) / 4096) (by omega) (by omega)
    have hC3 := i64_or128 (y := (c : Int) / 4096 % 64) (by omega) (by omega)
    by_cases h2 : (c : Int) < 2048
    · have HE : Hid (encU c = [UInt8.ofNat (192 + c / 64), UInt8.ofNat (128 + c % 64)]) := hid (by unfold encU; rw [if_neg (by omega), if_pos (by omega)])
      have hA := i64_or192 (y := (c : Int) / 64) (by omega) (by omega)
      go_enter Tryd.func33, Tryd.ntmps33
      go_wp2_with fail
      go_ret
      refine ⟨⟨_, rfl, ?_⟩, hb0.alloc (Nat.le_refl _) _⟩
      rw [HE.out]
      exact view_new w [UInt8.ofNat (192 + c / 64), UInt8.ofNat (128 + c % 64)] _ _ (by simp [byteCells]; omega) (by simp [maxLen])
    · by_cases h3 : (c : Int) < 65536
      · have HE : Hid (encU c = [UInt8.ofNat (224 + c / 4096), UInt8.ofNat (128 + c / 64 % 64), UInt8.ofNat (128 + c % 64)]) := hid (by unfold encU; rw [if_neg (by omega), if_neg (by omega), if_pos (by omega)])
        have hA := i64_or224 (y := (c : Int) / 4096) (by omega) (by omega)
        go_enter Tryd.func33, Tryd.ntmps33
        go_wp2_with fail
        go_ret
        refine ⟨⟨_, rfl, ?_⟩, hb0.alloc (Nat.le_refl _) _⟩
        rw [HE.out]
        exact view_new w [UInt8.ofNat (224 + c / 4096), UInt8.ofNat (128 + c / 64 % 64), UInt8.ofNat (128 + c % 64)] _ _ (by simp [byteCells]; omega) (by simp [maxLen])
      · have HE : Hid (encU c = [UInt8.ofNat (240 + c / 262144), UInt8.ofNat (128 + c / 4096 % 64), UInt8.ofNat (128 + c / 64 % 64), UInt8.ofNat (128 + c % 64)]) := hid (by unfold encU; rw [if_neg (by omega), if_neg (by omega), if_neg (by omega)])
        have hA := i64_or240 (y := (c : Int) / 262144) (by omega) (by omega)
        go_enter Tryd.func33, Tryd.ntmps33
        go_wp2_with fail
        go_ret
        refine ⟨⟨_, rfl, ?_⟩, hb0.alloc (Nat.le_refl _) _⟩
        rw [HE.out]
        exact view_new w [UInt8.ofNat (240 + c / 262144), UInt8.ofNat (128 + c / 4096 % 64), UInt8.ofNat (128 + c / 64 % 64), UInt8.ofNat (128 + c % 64)] _ _ (by simp [byteCells]; omega) (by simp [maxLen])
end Go.Proofs.YtgdnpnipahegaaaDoor
