/-
  The law FnJsonPeeks: looking ahead changes nothing of what is read. And 'reads': a list without parts is read as its two brackets.
-/
import Derived.Test.YtjkmmhnhhiopiaaDoorDJSame
import Derived.Test.YtjkmmhnhhiopiaaDoorDGlob
import Derived.Test.YtjkmmhnhhiopiaaDoorOpen
import Derived.Deep.QuietTactic
import Derived.BigQuiet
import Derived.Lib.SlBytesConst
import Derived.Lib.SmallJoins
namespace Go.Proofs.YtjkmmhnhhiopiaaDoor
open Go.ChangeShapes Go.WideShapes Go.ChangeAt Go.RowKit

theorem runJ_len (bs : List UInt8) (ps : List Bool) : ∀ (f : Nat) (s : DS) (l : List TK), (runJ bs ps f s l).1.length ≤ l.length + f
  | 0, _, _ => Nat.le_refl _
  | f + 1, s, l => by
    rw [runJ_succ]
    rcases readJ bs (if ps.getD l.length false then peekJ bs s else s) with ⟨s', _ | _⟩
    · exact Nat.le_add_right _ _
    · simp only
      split
      · exact Nat.le_add_right _ _
      · have := runJ_len bs ps f s' (l ++ [s'.tok])
        simp only [List.length_append, List.length_cons, List.length_nil] at this
        omega
theorem allJ_len (bs : List UInt8) (ps : List Bool) : (allJ bs ps).1.length ≤ bs.length + 1 := by
  have := runJ_len bs ps (bs.length + 1) DS.new []
  simpa [allJ] using this
/-- what a reading leaves -/
def JTold (B : Nat) (l : List TK) (b : Bool) (w0 : World) (e : Ending) (w' : World) : Prop := ∃ ao c, e = .returned (.tuple #[.slice ao l.length c, .bool b]) ∧ OwnJ w' B (.slice ao l.length c) l ∧ Below w0.heap.size w0 w'
theorem JRes.told {l : List TK} {b : Bool} {w w' : World} {e : Ending} {R : List TK × Bool} (h : JRes w.heap.size R w e w') (hR : R = (l, b)) : JTold w.heap.size l b w e w' := by
  subst hR
  obtain ⟨v, rfl, h2, h3⟩ := h
  obtain ⟨ao, c, rfl⟩ := h2.slice
  exact ⟨ao, c, rfl, h2, h3⟩
theorem brackets_read : ∃ a b, allJ [91, 93] [] = ([a, b], true) := ⟨_, _, by rfl⟩
theorem view_mark (w : World) (bs : List UInt8) (cells : Array Value) (t : TypeId) (fr : Nat × Nat) (hc : cells.toList = byteCells bs) (hm : bs.length ≤ maxLen) : View (w.alloc (.cells cells t fr)) w.heap.size (.slice (some ⟨w.heap.size, 0, none⟩) bs.length bs.length) bs :=
  ⟨_, _, rfl, Nat.le_refl _, hm, (fun h => by cases h), 0, (fun _ => rfl), fun j hj => by
    rw [Go.Joins.cell_alloc_mark_at w cells t fr _ (0 + j) rfl, ← Array.getElem?_toList, hc]
    simp [byteCells, hj]⟩
set_option maxRecDepth 100000 in
theorem reads_any (w : World) (hgl : Glob w) (h5 : 5 ≤ w.heap.size) :
    Calls Tryd.prog 21 #[] w fun e w' => e = .returned (.bool true) ∧ Below w.heap.size w w' := by
  obtain ⟨ta, tb, hab⟩ := brackets_read
  have hb0 : Below w.heap.size w (w.alloc (.cells #[.int .u8 91, .int .u8 93] 5 (2, 3))) := (Below.refl _ _).alloc (Nat.le_refl _) _
  have HV : Hid (View (w.alloc (.cells #[.int .u8 91, .int .u8 93] 5 (2, 3))) w.heap.size (.slice (some ⟨w.heap.size, 0, none⟩) 2 2) [91, 93]) := hid (view_mark w [91, 93] _ _ _ rfl (by simp [maxLen]))
  have HT : Hid (Calls Tryd.prog 11 #[.slice (some ⟨w.heap.size, 0, none⟩) 2 2] (w.alloc (.cells #[.int .u8 91, .int .u8 93] 5 (2, 3))) (JTold (w.alloc (.cells #[.int .u8 91, .int .u8 93] 5 (2, 3))).heap.size [ta, tb] true (w.alloc (.cells #[.int .u8 91, .int .u8 93] 5 (2, 3))))) :=
    hid ((jsonTokens_any _ _ _ _ HV.out (by simp) (hgl.below hb0) (by have := hb0.size; omega)).mono fun e w' h => h.told hab)
  have HB := hid hb0
  have kc := Lib.run_convert_bytes_const (P := Tryd.prog) w 28 5 #[.int .u8 91, .int .u8 93] 2 2 Tryd.underlying28 Tryd.underlying5
  simp only [List.size_toArray, List.length_cons, List.length_nil] at kc
  clear hb0 hgl hab
  go_enter Tryd.func21, Tryd.ntmps21
  go_wp2_with (first
    | (go_at_call 11; refine (Calls.mono HT.out ?_); rintro e w1 ⟨ao, c, rfl, ho, hb⟩; replace hb := below_comp HB.out hb; simp only [List.length_cons, List.length_nil])
    | fail)
  go_ret
  exact ⟨rfl, hb⟩
/-- the token's place, wherever it lies -/
theorem pos_cell {w w' : World} {g n : Nat} {t : TK} (hb : Below w.heap.size w w') (hg : g < w.heap.size) (h : ∀ q, q < 5 → w.cell? ⟨g, n + q, none⟩ = (jtCells t)[q]?) : w'.cell? ⟨g, n + 1, none⟩ = some (.int .i64 (t.pos : Int)) := (tok_cells hb hg h).2.1
set_option maxRecDepth 100000 in
set_option maxHeartbeats 4000000 in
theorem fnJsonPeeks_any (v vpk : Value) (bs : List UInt8) (ps : List Bool) (g : Nat) (w : World) (hv : View w g v bs) (hps : BView w w.heap.size vpk ps) (hgl : Glob w) (h5 : 5 ≤ w.heap.size) :
    Calls Tryd.prog 7 #[v, vpk] w fun e w' => e = .returned (.bool true) ∧ Below w.heap.size w w' := by
  have hb0 : Below w.heap.size w w := Below.refl _ _
  have HV := hid hv
  have HG := hid hgl
  have HP := hid hps
  obtain ⟨aoP, cP, rfl⟩ : ∃ ao c, vpk = .slice ao ps.length c := by obtain ⟨ao, c, e, _⟩ := hps; exact ⟨ao, c, e⟩
  obtain ⟨aoB, cB, rfl⟩ := hv.slice
  clear hv hgl hps
  by_cases h1 : bs.length ≤ 4000
  · by_cases h2 : ps.length ≤ 2147483647
    · have hlen := allJ_len bs []
      have HT : Hid (∀ w', Below w.heap.size w w' → Calls Tryd.prog 11 #[.slice aoB bs.length cB] w' (JTold w'.heap.size (allJ bs []).1 (allJ bs []).2 w')) :=
        hid fun w' hb => (jsonTokens_any _ bs g w' (HV.out.below hb) (by omega) (HG.out.below hb) (by have := hb.size; omega)).mono fun e w2 h => h.told rfl
      have HK : Hid (∀ w', Below w.heap.size w w' → Calls Tryd.prog 18 #[.slice aoB bs.length cB, .slice aoP ps.length cP] w' (JTold w'.heap.size (allJ bs []).1 (allJ bs []).2 w')) :=
        hid fun w' hb => (jsonPeeks_any _ _ bs ps g w' (HV.out.below hb) ((HP.out.below hb).mono hb.size) (by omega) (HG.out.below hb) (by have := hb.size; omega)).mono fun e w2 h => h.told (peeks_nothing bs ps)
      have HR : Hid (∀ w', Below w.heap.size w w' → Calls Tryd.prog 21 #[] w' fun e w2 => e = .returned (.bool true) ∧ Below w'.heap.size w' w2) := hid fun w' hb => reads_any w' (HG.out.below hb) (by have := hb.size; omega)
      generalize (allJ bs []).1 = L at *
      generalize (allJ bs []).2 = b at *
      have hlL : L.length ≤ 5000 := by omega
      clear hlen
      go_enter Tryd.func7, Tryd.ntmps7
      go_wp2_with (first
        | (go_at_call 11; refine (Calls.mono (HT.out _ hb0) ?_); rintro e w1 ⟨ao1, c1, rfl, ho1, hb1⟩; have HO1 := hid ho1; have HB1 := hid hb1; clear ho1 hb1)
        | (go_at_call 18; refine (Calls.mono (HK.out _ HB1.out) ?_); rintro e w2 ⟨ao2, c2, rfl, ho2, hb2⟩; have HO2 := hid ho2; have HB2 := hid hb2; have HB3 := hid (below_comp HB1.out hb2); clear ho2 hb2)
        | (go_at_call 20; refine (sameTokens_any _ _ L _ _ _ (HO1.out.below HB2.out) HO2.out (by omega)).mono ?_; rintro e w3 ⟨rfl, hb3⟩; have HB4 := hid (below_comp HB3.out hb3); have HBB := hid (below_comp HB2.out hb3); have HBC := hid hb3; clear hb3)
        | fail)
      obtain ⟨ao1', c1', he1, HC1⟩ := (HO1.out.below HBB.out).cells
      obtain ⟨ao2', c2', he2, HC2⟩ := (HO2.out.below HBC.out).cells
      injection he1 with he1 _ he1'
      injection he2 with he2 _ he2'
      subst he1 he1' he2 he2'
      replace HC1 := hid HC1
      replace HC2 := hid HC2
      go_loopw [43] (fun i wr => ∃ j : Nat, j ≤ L.length ∧ i = .int .i64 j ∧ Below w3.heap.size w3 wr) (fun i _ => L.length - (intOf i).toNat)
      case atStart => exact ⟨0, Nat.zero_le _, rfl, Below.refl _ _⟩
      case round =>
        obtain ⟨j, hj, rfl, hbr⟩ := hrel
        by_cases hlt : j < L.length
        · obtain ⟨g1, rfl, hg1, k1⟩ := HC1.out j hlt
          obtain ⟨g2, rfl, hg2, k2⟩ := HC2.out j hlt
          have p1 := pos_cell hbr hg1 k1
          have p2 := pos_cell hbr hg2 k2
          clear k1 k2
          generalize L[j] = t at *
          have HBR := hid hbr
          clear hbr
          go_upto_region 12 with fail
          go_quiet (fail)
          go_wp2_with fail
          go_roundw
          case rel => exact ⟨j + 1, by omega, by go_num, HBR.out.trans ⟨rfl, rfl, rfl, Nat.le_refl _, fun _ _ => rfl⟩⟩
          case measure => simp [intOf]; omega
        · have HBR := hid (below_comp HB4.out hbr)
          clear hbr
          go_wp2_with (first
            | (go_at_call 21; refine (Calls.mono (HR.out _ HBR.out) ?_); rintro e w5 ⟨rfl, hb5⟩)
            | fail)
          go_ret
          exact ⟨rfl, below_comp HBR.out hb5⟩
    · go_enter Tryd.func7, Tryd.ntmps7
      go_wp2_with fail
      go_ret
      exact ⟨rfl, hb0⟩
  · by_cases h3 : bs.length ≤ 2147483647 <;> by_cases h2 : ps.length ≤ 2147483647
    all_goals
      go_enter Tryd.func7, Tryd.ntmps7
      go_wp2_with fail
      go_ret
      exact ⟨rfl, hb0⟩
end Go.Proofs.YtjkmmhnhhiopiaaDoor
