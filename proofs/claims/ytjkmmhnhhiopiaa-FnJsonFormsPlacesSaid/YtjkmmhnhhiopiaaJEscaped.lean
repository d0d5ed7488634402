/-
  The reference's writer of JSON, walked: a comma, a digit of 16, a character of 16 bits as an escape.
-/
import Derived.Test.YtjkmmhnhhiopiaaJToken
namespace Go.Proofs.Ytjkmmhnhhiopiaa
open Go.ChangeShapes Go.WideShapes Go.ChangeAt Go.RowKit

theorem grownBy_refl (w : World) (r : Option Nat) : w.grownBy w r := ⟨rfl, rfl, rfl, Nat.le_refl _, fun _ _ _ => rfl⟩
theorem grownBy_trans {a b c : World} {r : Option Nat} (h : a.grownBy b r) (g : b.grownBy c r) : a.grownBy c r :=
  ⟨g.os.trans h.os, g.tape.trans h.tape, g.output.trans h.output, Nat.le_trans h.size g.size, fun k hk hn => (g.block k (Nat.lt_of_lt_of_le hk h.size) hn).trans (h.block k hk hn)⟩
theorem grownBy_of_below {a b : World} (h : Below a.heap.size a b) (r : Option Nat) : a.grownBy b r := ⟨h.os, h.tape, h.output, h.size, fun k hk _ => h.block k hk⟩
/-- a row of one's own that was made since has changed -/
theorem grownBy_own {a b c : World} {r : Option Nat} {v : Value} (h : a.grownBy b r) (g : b.grownBy c v.ownBlock) (hv : ∀ k, v.ownBlock = some k → a.heap.size ≤ k) : a.grownBy c r :=
  ⟨g.os.trans h.os, g.tape.trans h.tape, g.output.trans h.output, Nat.le_trans h.size g.size, fun k hk hn => (g.block k (Nat.lt_of_lt_of_le hk h.size) (fun e => by have := hv k e.symm; omega)).trans (h.block k hk hn)⟩
theorem JW.own {B p g : Nat} {ps : List UInt8} {vb vp vl : Value} {s : JS} {w w' : World} {v : Value} {n : Nat} (h : JW B p g ps vb vp vl s w) (hg : w.grownBy w' v.ownBlock) (hv : ∀ k, v.ownBlock = some k → n ≤ k) (hn : B ≤ n) (hp : p < n) (h1 : ∀ k, vb.ownBlock = some k → k < n) (h2 : ∀ k, vl.ownBlock = some k → k < n) : JW B p g ps vb vp vl s w' :=
  h.kept (hg.block p h.lt (fun e => by have := hv p e.symm; omega)) (fun k hk => hg.block k (by have := h.base; omega) (fun e => by have := hv k e.symm; omega))
    (World.ownsRow.kept h.b hg (by
      cases hb : vb.ownBlock with
      | none => exact .inl rfl
      | some k => exact .inr (fun e => by have := hv k e.symm; have := h1 k hb; omega)))
    (World.ownsRow.kept h.l hg (by
      cases hb : vl.ownBlock with
      | none => exact .inl rfl
      | some k => exact .inr (fun e => by have := hv k e.symm; have := h2 k hb; omega)))
/-- the writer's rows lie below what is new -/
theorem JW.rows {B p g : Nat} {ps : List UInt8} {vb vp vl : Value} {s : JS} {w : World} (h : JW B p g ps vb vp vl s w) : B ≤ w.heap.size ∧ p < w.heap.size ∧ (∀ k, vb.ownBlock = some k → k < w.heap.size) ∧ (∀ k, vl.ownBlock = some k → k < w.heap.size) :=
  ⟨h.base, h.lt, fun k hk => (World.ownsRow.lt h.b k hk).2, fun k hk => (World.ownsRow.lt h.l k hk).2⟩

set_option maxRecDepth 100000 in
theorem comma_any (B p g : Nat) (ps : List UInt8) (vb vp vl : Value) (s : JS) (w : World) (h : JW B p g ps vb vp vl s w) (hk : s.k ≤ 100000000) (hps : ps.length ≤ 2147483647) (hbl : s.b.length ≤ 10000000) (i : Nat) :
    Calls Try.prog 19 #[.pointer (some ⟨p, 0, none⟩), .int .i64 i] w (Wrote B p g ps vb vp vl (commaJ ps i s) w) := by
  by_cases hi : (0 : Int) < i
  · have HI : Hid (commaJ ps i s = byteJ 44 (spaceJ ps s)) := hid (by unfold commaJ; rw [if_pos (by omega)])
    have hsb : (spaceJ ps s).b.length ≤ 10000004 := by have := (grew_space ps s).blen; omega
    have HCS := hid (space_any B p g ps vb vp vl s w h hk hps (by omega))
    unfold Wrote at HCS
    generalize spaceJ ps s = s1 at *
    clear h
    go_enter Try.func19, Try.ntmps19
    go_wp2_with (first
      | (go_at_call 11; refine (Calls.mono HCS.out ?_); rintro e w1 ⟨rfl, vb1, vl1, hj1, hs1⟩
         obtain ⟨ao1, cc1, rfl⟩ := hj1.b.slice
         have hc0 := hj1.c0
         have hl1 := hj1.lt)
      | (refine wpList_append_one _ rfl _ _ _ rfl B 5 Try.underlying25 Try.info5 (.slice ao1 s1.b.length cc1) s1.b rfl (hj1.alloc _).b ⟨w1.heap.size, 0, none⟩ 1 44 rfl (alloc_cell w1 #[.int .u8 44] 5 0 rfl) (hj1.alloc _).base (by omega) ?_; intro v2 w2 ha2; obtain ⟨hc2, hf2⟩ := (hj1.alloc _).appd ha2; obtain ⟨ao2, cc2, rfl⟩ := ha2.own.slice)
      | fail)
    go_end0
    rw [show s1.b.length + 1 = (s1.b ++ [(44 : UInt8)]).length by simp]
    refine ⟨rfl, .slice ao2 (s1.b ++ [44]).length cc2, vl1, ?_, ?_⟩
    · rw [HI.out]; exact (hj1.alloc _).put ha2
    · exact (hs1.alloc _).trans (JStep.put ha2 _ _)
  · have HI : Hid (commaJ ps i s = s) := hid (by unfold commaJ; rw [if_neg (by omega)])
    have HH := hid h
    clear h
    go_enter Try.func19, Try.ntmps19
    go_wp2_with fail
    go_end0
    refine ⟨rfl, vb, vl, ?_, JStep.refl _ _ _ _⟩
    rw [HI.out]; exact HH.out

def hexLo : ByteArray := ⟨#[48, 49, 50, 51, 52, 53, 54, 55, 56, 57, 97, 98, 99, 100, 101, 102]⟩
def hexUp : ByteArray := ⟨#[48, 49, 50, 51, 52, 53, 54, 55, 56, 57, 65, 66, 67, 68, 69, 70]⟩
theorem hexLo_at : ∀ r, r < 16 → hexLo.data[r]? = some (hexT false r) := by decide
theorem hexUp_at : ∀ r, r < 16 → hexUp.data[r]? = some (hexT true r) := by decide

theorem hexLo_get (r : Nat) (h : r < hexLo.data.size) : hexLo.data[r] = hexT false r := by
  have := hexLo_at r h
  rw [Array.getElem?_eq_getElem h] at this
  injection this
theorem hexUp_get (r : Nat) (h : r < hexUp.data.size) : hexUp.data[r] = hexT true r := by
  have := hexUp_at r h
  rw [Array.getElem?_eq_getElem h] at this
  injection this
theorem i64_and15 {x : Int} (h0 : 0 ≤ x) (h1 : x < 2147483648) : bits .and .i64 x 15 = x % 16 := bits_mask .i64 63 (by decide) wraps_i64' 4 (by decide) x h0 (by omega)

def Hexed (B p g : Nat) (ps : List UInt8) (vb vp vl : Value) (s : JS) (n : Nat) (w : World) (e : Ending) (w' : World) : Prop :=
  e = .returned (.int .u8 ((hexJ ps s.k n).toNat : Int)) ∧ JW B p g ps vb vp vl { s with k := pickK ps s.k } w' ∧ w.grownBy w' (some p)
set_option maxRecDepth 100000 in
theorem hexByte_any (B p g : Nat) (ps : List UInt8) (vb vp vl : Value) (s : JS) (w : World) (h : JW B p g ps vb vp vl s w) (hk : s.k ≤ 100000000) (hps : ps.length ≤ 2147483647) (n : Nat) (hn : n < 2147483648) :
    Calls Try.prog 32 #[.pointer (some ⟨p, 0, none⟩), .int .i64 n] w (Hexed B p g ps vb vp vl s n w) := by
  have HC := hid (pick_any B p g ps vb vp vl s 2 w h (by decide) (by decide) hk hps)
  have HX : Hid (hexJ ps s.k n = hexT (pickV ps s.k 2 == 1) (n % 16)) := hid rfl
  have hv2 := pickV_lt ps s.k 2 (by decide)
  unfold Picked at HC
  generalize pickV ps s.k 2 = v at *
  have ha := i64_and15 (x := n) (by omega) (by omega)
  obtain ⟨r, hr⟩ : ∃ r, r = n % 16 := ⟨_, rfl⟩
  have hri : (n : Int) % 16 = (r : Int) := by omega
  have hr16 : r < 16 := by omega
  rw [hri] at ha
  have HR := hid hr
  clear h hri hr
  have hv01 : v = 0 ∨ v = 1 := by omega
  rcases hv01 with rfl | rfl
  all_goals
    go_enter Try.func32, Try.ntmps32
    go_wp2_with (go_at_call 20; refine (Calls.mono HC.out ?_); rintro e w1 ⟨rfl, hj1, hg1⟩)
    go_ret
    refine ⟨?_, hj1, hg1⟩
    rw [HX.out, ← HR.out]
    first | exact congrArg (fun x : UInt8 => Ending.returned (.int .u8 (x.toNat : Int))) (hexLo_get r hr16) | exact congrArg (fun x : UInt8 => Ending.returned (.int .u8 (x.toNat : Int))) (hexUp_get r hr16)

def kAt (ps : List UInt8) (k : Nat) : Nat → Nat
  | 0 => k
  | j + 1 => pickK ps (kAt ps k j)
theorem kAt_le (ps : List UInt8) (k : Nat) : ∀ j, kAt ps k j ≤ k + j
  | 0 => Nat.le_refl _
  | j + 1 => by have := kAt_le ps k j; have := pickK_le ps (kAt ps k j); unfold kAt; omega
def escB (ps : List UInt8) (k c : Nat) : Nat → List UInt8
  | 0 => [92, 117]
  | 1 => [92, 117, hexJ ps k (c / 4096)]
  | 2 => [92, 117, hexJ ps k (c / 4096), hexJ ps (kAt ps k 1) (c / 256)]
  | 3 => [92, 117, hexJ ps k (c / 4096), hexJ ps (kAt ps k 1) (c / 256), hexJ ps (kAt ps k 2) (c / 16)]
  | _ => escapedJ ps k c
theorem escB_len (ps : List UInt8) (k c : Nat) : ∀ j, (escB ps k c j).length ≤ 6
  | 0 => by simp [escB]
  | 1 => by simp [escB]
  | 2 => by simp [escB]
  | 3 => by simp [escB]
  | _ + 4 => by simp [escB, escapedJ]
theorem escB_snoc (ps : List UInt8) (k c : Nat) : ∀ j, j < 4 → escB ps k c (j + 1) = escB ps k c j ++ [hexJ ps (kAt ps k j) (c / 2 ^ (12 - 4 * j))]
  | 0, _ => rfl
  | 1, _ => rfl
  | 2, _ => rfl
  | 3, _ => by simp [escB, escapedJ, kAt]
def Made (B p g : Nat) (ps : List UInt8) (vb vp vl : Value) (s : JS) (bs : List UInt8) (w : World) (e : Ending) (w' : World) : Prop :=
  ∃ v', e = .returned v' ∧ OwnB w' w.heap.size 5 v' bs ∧ JW B p g ps vb vp vl s w' ∧ w.grownBy w' (some p)

theorem OwnB.made {w : World} {B : Nat} (hB : B ≤ w.heap.size) (bs : List UInt8) (cells : Array Value) (e : TypeId) (hc : cells.toList = byteCells bs) (hm : bs.length ≤ maxLen) : OwnB (w.alloc (.cells cells e)) B e (.slice (some ⟨w.heap.size, 0, none⟩) bs.length bs.length) bs := by
  refine ⟨by rw [length_byteCells, Nat.mul_one], .inr ⟨w.heap.size, bs.length, cells, rfl, hB, heap_alloc_new w _, Nat.le_refl _, hm, ?_, ?_⟩⟩
  · rw [← Array.length_toList, hc, length_byteCells, Nat.mul_one]
  · rw [hc, Nat.mul_one, List.take_of_length_le (by rw [length_byteCells]; exact Nat.le_refl _)]

set_option maxRecDepth 100000 in
set_option maxHeartbeats 1000000 in
theorem escaped_any (B p g : Nat) (ps : List UInt8) (vb vp vl : Value) (s : JS) (w : World) (h : JW B p g ps vb vp vl s w) (hk : s.k ≤ 90000000) (hps : ps.length ≤ 2147483647) (c : Nat) (hc : c < 2147483648) :
    Calls Try.prog 31 #[.pointer (some ⟨p, 0, none⟩), .int .i64 c] w (Made B p g ps vb vp vl { s with k := escapedK ps s.k } (escapedJ ps s.k c) w) := by
  have hr := h.rows
  obtain ⟨r1, r2, r3, r4⟩ := hr
  have HH := hid h
  clear h
  go_enter Try.func31, Try.ntmps31
  go_wp2_with fail
  go_loopw [5, 6] (fun v i wr => ∃ j : Nat, j ≤ 4 ∧ i = .int .i64 (12 - 4 * (j : Int)) ∧ OwnB wr w.heap.size 5 v (escB ps s.k c j) ∧ JW B p g ps vb vp vl { s with k := kAt ps s.k j } wr ∧ w.grownBy wr (some p)) (fun _ i _ => ((intOf i) + 4).toNat)
  case atStart => exact ⟨0, by omega, rfl, OwnB.made (Nat.le_refl _) [92, 117] _ _ rfl (by simp [maxLen]), HH.out.alloc _, World.grownBy_alloc w _ _⟩
  case round =>
    obtain ⟨j, hj, rfl, hown, hjw, hgr⟩ := hrel
    obtain ⟨ao, cc, rfl⟩ := hown.slice
    have hel := escB_len ps s.k c j
    have hka := kAt_le ps s.k j
    by_cases h4 : j = 4
    · subst h4
      go_wp2_with fail
      go_ret
      exact ⟨_, rfl, hown, hjw, hgr⟩
    · obtain ⟨q, hq⟩ : ∃ q, q = c / 2 ^ (12 - 4 * j) := ⟨_, rfl⟩
      have hs := escB_snoc ps s.k c j (by omega)
      rw [← hq] at hs
      have hqc : q < 2147483648 := by rw [hq]; exact Nat.lt_of_le_of_lt (Nat.div_le_self _ _) hc
      have HC : Hid (∀ z : Int, z = (q : Int) → Calls Try.prog 32 #[.pointer (some ⟨p, 0, none⟩), .int .i64 z] wr (Hexed B p g ps vb vp vl { s with k := kAt ps s.k j } q wr)) :=
        hid fun z hz => hz ▸ hexByte_any B p g ps vb vp vl { s with k := kAt ps s.k j } wr hjw (by simp only; omega) hps q hqc
      unfold Hexed at HC
      simp only at HC
      generalize hexJ ps (kAt ps s.k j) q = y at *
      have HS := hid hs
      have HQ := hid hq
      clear hs hq
      have hown1 : ∀ w1, wr.grownBy w1 (some p) → OwnB w1 w.heap.size 5 (.slice ao (escB ps s.k c j).length cc) (escB ps s.k c j) := fun w1 hg => World.ownsRow.kept hown hg (.inr (fun e => by have := (World.ownsRow.lt hown _ e).1; omega))
      have hpos : (escB ps s.k c j).length + 1 = (escB ps s.k c (j + 1)).length := by rw [HS.out]; simp
      have HP := hid hpos
      clear hpos
      have hsz : w.heap.size ≤ wr.heap.size := hgr.size
      have hj4 : j = 0 ∨ j = 1 ∨ j = 2 ∨ j = 3 := by omega
      have HK : Hid (pickK ps (kAt ps s.k j) = kAt ps s.k (j + 1)) := hid rfl
      generalize hE : escB ps s.k c j = E at *
      generalize hK : kAt ps s.k j = kk at *
      clear hE hK hown
      rcases hj4 with rfl | rfl | rfl | rfl
      all_goals
        go_wp2_with (first
          | (go_at_call 32; refine (Calls.mono (HC.out _ (by rw [HQ.out]; first | (simp; done) | (simp; omega) | omega)) ?_); rintro e w1 ⟨rfl, hj1, hg1⟩; have ho1 := hown1 w1 hg1; have hs1 : w.heap.size ≤ (w1.alloc (.cells #[.int .u8 (y.toNat : Int)] 5)).heap.size := (by have := hg1.size; simp; omega))
          | (refine wpList_append_one _ rfl _ _ _ rfl w.heap.size 5 Try.underlying25 Try.info5 (.slice ao E.length cc) E rfl (ho1.alloc _) ⟨w1.heap.size, 0, none⟩ 1 y rfl (alloc_cell w1 #[.int .u8 (y.toNat : Int)] 5 0 rfl) hs1 (by omega) ?_; intro v2 w2 ha2; obtain ⟨ao2, cc2, rfl⟩ := ha2.own.slice)
          | fail)
        go_roundw
        case rel =>
          have hv : ∀ k, (Value.slice ao E.length cc).ownBlock = some k → w.heap.size ≤ k := fun k hk => (World.ownsRow.lt ho1 k hk).1
          have hw2 := (hj1.alloc _).own ha2.grown hv r1 r2 r3 r4
          have hg2 := grownBy_own (grownBy_trans (grownBy_trans hgr hg1) (World.grownBy_alloc w1 _ _)) ha2.grown hv
          have ho2 := ha2.own
          rw [HK.out] at hw2
          rw [← HS.out] at ho2
          first
          | exact ⟨1, by omega, rfl, by first | exact ho2 | (rw [HP.out]; exact ho2), hw2, hg2⟩
          | exact ⟨2, by omega, rfl, by first | exact ho2 | (rw [HP.out]; exact ho2), hw2, hg2⟩
          | exact ⟨3, by omega, rfl, by first | exact ho2 | (rw [HP.out]; exact ho2), hw2, hg2⟩
          | exact ⟨4, by omega, rfl, by first | exact ho2 | (rw [HP.out]; exact ho2), hw2, hg2⟩
        case measure => simp [intOf]
end Go.Proofs.Ytjkmmhnhhiopiaa
