/-
  How much a value of JSON is: what the laws' own check gives.
-/
import Derived.Test.YtjkmmhnhhiopiaaDoorItem
import Derived.Test.YtjkmmhnhhiopiaaDoorUtf8Walk
namespace Go.Proofs.YtjkmmhnhhiopiaaDoor
open Go.ChangeShapes Go.WideShapes Go.ChangeAt Go.RowKit

/-- one node -/
def nodeV (k : Nat) (nm s : List UInt8) (ao : Option Addr) (len cap : Nat) : Value := .agg #[.int .u8 k, .string ⟨nm.toArray⟩, .string ⟨s.toArray⟩, .slice ao len cap]
def fitsJ (nm s : List UInt8) (len : Nat) : Bool := decide (nm.length ≤ 2147483647) && decide (s.length ≤ 2147483647) && decide (len ≤ 2147483647)

set_option maxRecDepth 100000 in
theorem fitsJ_any (k : Nat) (nm s : List UInt8) (ao : Option Addr) (len cap : Nat) (w : World) :
    Calls Tryd.prog 12 #[nodeV k nm s ao len cap] w fun e w' => e = .returned (.bool (fitsJ nm s len)) ∧ Below w.heap.size w w' := by
  unfold nodeV
  by_cases h1 : nm.length ≤ 2147483647 <;> by_cases h2 : s.length ≤ 2147483647 <;> by_cases h3 : len ≤ 2147483647
  all_goals
    have HF := hid (show fitsJ nm s len = (decide (nm.length ≤ 2147483647) && decide (s.length ≤ 2147483647) && decide (len ≤ 2147483647)) from rfl)
    go_enter Tryd.func12, Tryd.ntmps12
    go_wp2_with fail
    go_ret
    exact ⟨by rw [HF.out]; simp [h1, h2, h3], (Below.refl _ _).alloc (Nat.le_refl _) _⟩

theorem ItemN.shape {w : World} : ∀ {n : Nat} {cs : List Value} {x : JI}, ItemN w n cs x → ∃ (k : Nat) (nm s : ByteArray) (ao : Option Addr) (len cap : Nat), cs = [.int .u8 k, .string nm, .string s, .slice ao len cap]
  | 0, _, _, h => h.elim
  | n + 1, cs, .mk k nm s kids, h => by
    obtain ⟨_, _, _, ao, cap, h4, _⟩ := h
    exact ⟨k, _, _, ao, _, cap, h4⟩
def wsum : List Nat → Nat → Nat
  | [], n => n
  | x :: xs, n => if 1048576 < n + x then 1073741824 else wsum xs (n + x)
def nodeBad (nm s : List UInt8) : Bool := decide (300 < nm.length) || decide (300 < s.length) || !utf8V nm || !utf8V s
def weightN : Nat → JI → Nat
  | 0, _ => 1073741824
  | d + 1, .mk _ nm s kids => if nodeBad nm s then 1073741824 else wsum (kids.map (weightN d)) 1
theorem wsum_le : ∀ (l : List Nat) (n : Nat), n ≤ 1073741824 → wsum l n ≤ 1073741824
  | [], n, h => h
  | x :: xs, n, h => by
    unfold wsum; split
    · exact Nat.le_refl _
    · exact wsum_le xs _ (by omega)
theorem weightN_le : ∀ (d : Nat) (x : JI), weightN d x ≤ 1073741824
  | 0, _ => Nat.le_refl _
  | d + 1, .mk _ nm s kids => by
    unfold weightN; split
    · exact Nat.le_refl _
    · exact wsum_le _ _ (by omega)

set_option maxRecDepth 100000 in
set_option maxHeartbeats 2000000 in
theorem weight_any : ∀ (d : Nat), d ≤ 20 → ∀ (n : Nat) (x : JI) (cs : List Value) (w : World), ItemN w n cs x →
    Calls Tryd.prog 13 #[.agg cs.toArray, .int .i64 d] w fun e w' => e = .returned (.int .i64 (weightN d x)) ∧ Below w.heap.size w w' := by
  intro d
  induction d with
  | zero =>
    intro _ n x cs w hx
    rcases n with _ | n
    · exact hx.elim
    obtain ⟨k, nm, s, kids⟩ := x
    obtain ⟨_, _, _, ao, cap, rfl, _⟩ := hx
    go_enter Tryd.func13, Tryd.ntmps13
    go_wp2_with fail
    go_ret
    exact ⟨rfl, (Below.refl _ _).alloc (Nat.le_refl _) _⟩
  | succ d ih =>
    intro hd n x cs w hx
    rcases n with _ | n
    · exact hx.elim
    obtain ⟨k, nm, s, kids⟩ := x
    obtain ⟨hk, _, _, ao, cap, rfl, hlc, hcap, hkids⟩ := hx
    have hml : maxLen = 9223372036854775807 := rfl
    have hd0 : ((d : Int) + 1 == 0) = false := by simp; omega
    have HW := hid (show weightN (d + 1) (.mk k nm s kids) = if nodeBad nm s then 1073741824 else wsum (kids.map (weightN d)) 1 from rfl)
    have HB := hid (show nodeBad nm s = (decide (300 < nm.length) || decide (300 < s.length) || !utf8V nm || !utf8V s) from rfl)
    have hb0 : Below w.heap.size w (w.alloc (.cells #[.int .u8 k, .string ⟨nm.toArray⟩, .string ⟨s.toArray⟩, .slice ao kids.length cap] 34)) := (Below.refl _ _).alloc (Nat.le_refl _) _
    by_cases h1 : 300 < nm.length
    · go_enter Tryd.func13, Tryd.ntmps13
      go_wp2_with fail
      go_ret
      exact ⟨by rw [HW.out, if_pos (by rw [HB.out]; simp [h1])]; rfl, hb0⟩
    · by_cases h2 : 300 < s.length
      · go_enter Tryd.func13, Tryd.ntmps13
        go_wp2_with fail
        go_ret
        exact ⟨by rw [HW.out, if_pos (by rw [HB.out]; simp [h2])]; rfl, hb0⟩
      · rcases h3 : utf8V nm with _ | _
        · have c1 : ∀ w, Calls Tryd.prog 26 #[.string ⟨nm.toArray⟩] w fun e w' => e = .returned (.bool false) ∧ w = w' := fun w => h3 ▸ utf8_any nm w (by omega)
          have H3 := hid h3
          clear h3
          go_enter Tryd.func13, Tryd.ntmps13
          go_wp2_with (go_at_call 26; refine (c1 _).mono ?_; rintro e w' ⟨rfl, rfl⟩)
          go_ret
          exact ⟨by rw [HW.out, if_pos (by rw [HB.out]; simp [H3.out])]; rfl, hb0⟩
        · rcases h4 : utf8V s with _ | _
          · have cA : ∀ t w, t.length ≤ 1000000 → Calls Tryd.prog 26 #[.string ⟨t.toArray⟩] w fun e w' => e = .returned (.bool (utf8V t)) ∧ w = w' := fun t w h => utf8_any t w h
            have H4 := hid h4
            go_enter Tryd.func13, Tryd.ntmps13
            go_wp2_with (go_at_call 26; refine (cA _ _ (by omega)).mono ?_; rintro e w' ⟨rfl, rfl⟩; (try rw [h3]); (try rw [h4]))
            go_ret
            exact ⟨by rw [HW.out, if_pos (by rw [HB.out]; simp [H4.out])]; rfl, hb0⟩
          · have HU1 := hid h3
            have HU2 := hid h4
            have HKI := hid hkids
            have cU : ∀ t w, (t = nm ∨ t = s) → Calls Tryd.prog 26 #[.string ⟨t.toArray⟩] w fun e w' => e = .returned (.bool true) ∧ w = w' := by
              rintro t w (rfl | rfl)
              · exact h3 ▸ utf8_any t w (by omega)
              · exact h4 ▸ utf8_any t w (by omega)
            clear h3 h4 hkids
            go_enter Tryd.func13, Tryd.ntmps13
            go_wp2_with (go_at_call 26; refine (cU _ _ (by first | exact .inl rfl | exact .inr rfl)).mono ?_; rintro e w' ⟨rfl, rfl⟩)
            clear cU hb0
            have HN := hid (show nodeBad nm s = false by rw [HB.out, HU1.out, HU2.out]; simp; omega)
            go_loopw [5, 37] (fun acc i wr => ∃ (j a : Nat), i = .int .i64 j ∧ acc = .int .i64 a ∧ j ≤ kids.length ∧ a ≤ 1048576 ∧ wsum (kids.map (weightN d)) 1 = wsum ((kids.drop j).map (weightN d)) a ∧ Below w.heap.size w wr) (fun _ i _ => kids.length - (intOf i).toNat)
            case atStart => exact ⟨0, 1, rfl, rfl, Nat.zero_le _, by omega, rfl, (Below.refl _ _).alloc (Nat.le_refl _) _⟩
            case round =>
              obtain ⟨j, a, rfl, rfl, hj, ha, heq, hb⟩ := hrel
              have HE := hid heq
              clear heq
              by_cases hlt : j < kids.length
              · obtain ⟨b, o, cs', rfl, hl4, hcells, hit⟩ := HKI.out j hlt
                obtain ⟨k', nm', s', ao', len', cap', rfl⟩ := hit.shape
                have hcw : ∀ q, q < 4 → wr.cell? ⟨b, o + j * 4 + q, none⟩ = [Value.int .u8 k', .string nm', .string s', .slice ao' len' cap'][q]? := fun q hq => by
                  have h0 := hcells q hq
                  rw [List.getElem?_eq_getElem (by simpa using hq)] at h0 ⊢
                  rw [hb.cell (World.block_lt_of_cell? w _ h0)]
                  exact h0
                have c0 : wr.cell? ⟨b, o + j * 4, none⟩ = some (.int .u8 k') := hcw 0 (by omega)
                have c1 : wr.cell? ⟨b, o + j * 4 + 1, none⟩ = some (.string nm') := hcw 1 (by omega)
                have c2 : wr.cell? ⟨b, o + j * 4 + 2, none⟩ = some (.string s') := hcw 2 (by omega)
                have c3 : wr.cell? ⟨b, o + j * 4 + 3, none⟩ = some (.slice ao' len' cap') := hcw 3 (by omega)
                have hitr := hit.below hb n
                clear hcw hcells
                have hwl := weightN_le d kids[j]
                have hws : wsum ((kids.drop j).map (weightN d)) a = if 1048576 < a + weightN d kids[j] then 1073741824 else wsum ((kids.drop (j + 1)).map (weightN d)) (a + weightN d kids[j]) := by
                  rw [List.drop_eq_getElem_cons hlt, List.map_cons, wsum]
                have HS := hid hws
                clear hws
                have cI : ∀ w', Below wr.heap.size wr w' → Calls Tryd.prog 13 #[.agg #[.int .u8 k', .string nm', .string s', .slice ao' len' cap'], .int .i64 d] w' fun e w2 => e = .returned (.int .i64 (weightN d kids[j])) ∧ Below w'.heap.size w' w2 := fun w' hb' => ih (by omega) n _ _ w' (hitr.below hb' n)
                generalize weightN d kids[j] = x at *
                by_cases hbig : (1048576 : Int) < (a : Int) + x
                all_goals
                  go_wp2_with (go_at_call 13; refine (cI _ ((Below.refl _ _).alloc (Nat.le_refl _) _)).mono ?_; rintro e w2 ⟨rfl, hb2⟩)
                  first
                  | (go_ret
                     exact ⟨by rw [HW.out, HN.out, if_neg (by decide), HE.out, HS.out, if_pos (by omega)]; rfl, below_comp hb (below_comp ((Below.refl _ _).alloc (Nat.le_refl _) _) hb2)⟩)
                  | (go_roundw
                     case rel => exact ⟨j + 1, a + x, by go_num, by go_num, by omega, by omega, by rw [HE.out, HS.out, if_neg (by omega)], below_comp hb (below_comp ((Below.refl _ _).alloc (Nat.le_refl _) _) hb2)⟩
                     case measure => simp [intOf]; omega)
              · have hk2 : j = kids.length := by omega
                have he := HE.out
                rw [hk2, List.drop_length] at he
                have HE2 := hid he
                clear he
                go_wp2_with fail
                go_ret
                exact ⟨by rw [HW.out, HN.out, if_neg (by decide), HE2.out]; rfl, hb⟩
end Go.Proofs.YtjkmmhnhhiopiaaDoor
