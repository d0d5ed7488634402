/-
  The law FnTrimPrefix: what the package's trimming and the reference's give.
-/
import Derived.Test.YtnammoimjcgdmaaDoorMapEntry
import Derived.Test.YtnammoimjcgdmaaDoorShelf
import Derived.Deep.QuietTactic
import Derived.BigQuiet
namespace Go.Proofs.YtnammoimjcgdmaaDoor
open Go.ChangeShapes Go.WideShapes Go.ChangeAt Go.RowKit
open Go.ChangeMaps (open_string shut_string)

/-- What is left behind a prefix of small letters, underscores not counted; none: the name has no such prefix. -/
def trimGo : List UInt8 → List UInt8 → Option (List UInt8)
  | l, [] => some l
  | [], _ :: _ => none
  | c :: l, p :: ps => if c.toNat == 95 then trimGo l (p :: ps) else if lowI c.toNat == (p.toNat : Int) then trimGo l ps else none
def skipU (l : List UInt8) : List UInt8 := l.dropWhile fun c => c.toNat == 95
/-- What the package gives. -/
def trimOut (s p : List UInt8) : List UInt8 := match trimGo s p with
  | some l => if (skipU l).isEmpty then s else skipU l
  | none => s
theorem trimGo_suffix : ∀ (l p r : List UInt8), trimGo l p = some r → ∃ k, r = l.drop k
  | l, [], r, h => ⟨0, by simp [trimGo] at h; simp [h]⟩
  | [], _ :: _, r, h => by simp [trimGo] at h
  | c :: l, p :: ps, r, h => by
    unfold trimGo at h
    split at h
    · obtain ⟨k, rfl⟩ := trimGo_suffix l (p :: ps) r h; exact ⟨k + 1, by simp⟩
    · split at h
      · obtain ⟨k, rfl⟩ := trimGo_suffix l ps r h; exact ⟨k + 1, by simp⟩
      · cases h
theorem skipU_suffix : ∀ l : List UInt8, ∃ k, skipU l = l.drop k
  | [] => ⟨0, rfl⟩
  | c :: l => by
    obtain ⟨k, hk⟩ := skipU_suffix l
    unfold skipU at *
    rw [List.dropWhile_cons]
    split
    · exact ⟨k + 1, by simpa using hk⟩
    · exact ⟨0, rfl⟩
theorem trimOut_suffix (s p : List UInt8) : ∃ k, trimOut s p = s.drop k := by
  unfold trimOut
  split
  · rename_i l h
    split
    · exact ⟨0, rfl⟩
    · obtain ⟨a, ha⟩ := trimGo_suffix _ _ _ h
      obtain ⟨b, hb⟩ := skipU_suffix l
      exact ⟨a + b, by rw [hb, ha, List.drop_drop]⟩
  · exact ⟨0, rfl⟩
theorem trimOut_ne (s p : List UInt8) (h : s ≠ []) : trimOut s p ≠ [] := by
  unfold trimOut
  split
  · split
    · exact h
    · rename_i h1; intro h2; rw [h2] at h1; simp at h1
  · exact h

theorem caseTab_below {R oR : Nat} {T : Array Lib.CaseRow} {w w' : World} (h : Lib.CaseTab R oR T w) (hb : Below w.heap.size w w') : Lib.CaseTab R oR T w' := fun i hi =>
  have c {a : Addr} {v : Value} (x : w.cell? a = some v) : w'.cell? a = some v := by rw [hb.cell (World.block_lt_of_cell? w a x)]; exact x
  ⟨c (h i hi).1, c (h i hi).2.1, c (h i hi).2.2.1, c (h i hi).2.2.2.1, c (h i hi).2.2.2.2⟩
theorem caseVar_below {g : Nat} {T : Array Lib.CaseRow} {w w' : World} (h : Lib.CaseVar g T w) (hb : Below w.heap.size w w') : Lib.CaseVar g T w' := by
  obtain ⟨R, oR, cap, hg, ht⟩ := h
  exact ⟨R, oR, cap, by rw [hb.cell (World.block_lt_of_cell? w _ hg)]; exact hg, caseTab_below ht hb⟩

theorem below_drewQ {B : Nat} {a w : World} (h : Below B a w) (n : Nat) : Below B a (w.drewN n) := h.trans ⟨rfl, rfl, rfl, Nat.le_refl _, fun _ _ => rfl⟩
theorem low_byte_all : ((List.range 256).all fun c => decide ((c : Int) < 128) || decide (128 ≤ Lib.toLowerU c)) = true := by kernel_rfl
theorem low_byte (c : UInt8) (p : UInt8) (hp : isLow p.toNat = true) : (Lib.toLowerU c.toNat == (p.toNat : Int)) = (lowI c.toNat == (p.toNat : Int)) := by
  simp only [isLow, Bool.and_eq_true, decide_eq_true_eq] at hp
  have hc := byte_bd c
  by_cases h : (c.toNat : Int) < 128
  · congr 1
    unfold Lib.toLowerU lowI isUp
    rw [if_pos (by omega)]
    simp only [Bool.and_eq_true, decide_eq_true_eq]
    split <;> omega
  · have h1 := List.all_eq_true.1 low_byte_all c.toNat (List.mem_range.2 (by omega))
    simp only [Bool.or_eq_true, decide_eq_true_eq] at h1
    have h2 : lowI c.toNat = c.toNat := by
      unfold lowI isUp
      rw [if_neg]
      simp; omega
    rw [h2, Bool.eq_iff_iff]
    simp
    omega

theorem zzInSet_any (c : Int) (w : World) :
    Calls Tryd.prog 37 #[.int .i32 c, .string ⟨#[95]⟩] w fun e w' => e = .returned (.bool (c == 95)) ∧ Below w.heap.size w w' := by
  go_enter Tryd.func37, Tryd.ntmps37
  go_wp2
  go_loopw [6] (fun _ wr => ∃ k : Nat, k ≤ 1 ∧ wr.heap[w.heap.size]? = some (.stringIter ⟨#[95]⟩ k) ∧ Below w.heap.size w wr ∧ (k = 1 → (c == 95) = false)) (fun _ wr => 1 - wr.iterPos w.heap.size)
  case atStart => exact ⟨0, Nat.zero_le _, World.iter_heap w _ 0, (Below.refl _ _).alloc (Nat.le_refl _) _, fun h => by cases h⟩
  case round =>
    obtain ⟨k, hk, hit, hb, hno⟩ := hrel
    have hmu := iterPos_of hit
    rcases k with _ | k
    · have hnx : ∀ ty : TypeId, _ = Result.ok (Value.tuple #[.bool true, .int .i64 (0 : Nat), .int .i32 95]) _ := fun ty => Lib.run_next_ascii_at (P := Tryd.prog) wr w.heap.size ⟨#[95]⟩ 0 ty hit (by decide) (by decide)
      have hheap2 := Lib.iterAt_heap wr w.heap.size _ 0 1 hit
      rcases hc : c == 95 with _ | _
      · have HC := hid hc
        go_wp2_with fail
        go_roundw
        case rel => exact ⟨1, Nat.le_refl _, hheap2, Lib.below_iterAt hb (Nat.le_refl _) _ _, fun _ => by first | exact HC.out | trivial⟩
        case measure => rw [iterPos_of hheap2]; omega
      · obtain rfl : c = 95 := by simpa using hc
        clear hc
        go_wp2_with fail
        go_ret
        exact ⟨rfl, Lib.below_iterAt hb (Nat.le_refl _) _ _⟩
    · obtain rfl : k = 0 := by omega
      have hnx := fun ty => Lib.run_next_end_at (P := Tryd.prog) wr w.heap.size ⟨#[95]⟩ (0 + 1) ty hit (by decide)
      have HN := hid (hno rfl)
      clear hno
      go_wp2_with fail
      go_ret
      exact ⟨by rw [HN.out]; rfl, hb⟩

theorem skipU_nil : skipU [] = [] := rfl
theorem skipU_cons (c : UInt8) (l : List UInt8) : skipU (c :: l) = if c.toNat == 95 then skipU l else c :: l := by
  unfold skipU; rw [List.dropWhile_cons]
theorem drop_cons {l : List UInt8} {k : Nat} (h : k < l.length) : l.drop k = l[k] :: l.drop (k + 1) := List.drop_eq_getElem_cons h

theorem extract_mk (l : List UInt8) (k : Nat) (_h : k ≤ l.length) : (⟨l.toArray⟩ : ByteArray).extract k (⟨l.toArray⟩ : ByteArray).size = ⟨(l.drop k).toArray⟩ := by
  apply ByteArray.ext
  rw [size_mk, ByteArray.data_extract]
  simp
  rw [List.take_of_length_le (by simp)]

set_option maxRecDepth 100000 in
theorem zzTrimLeft_any (l : List UInt8) (w : World) (_hs : l.length ≤ 1000000) :
    Calls Tryd.prog 29 #[.string ⟨l.toArray⟩, .string ⟨#[95]⟩] w fun e w' => e = .returned (.string ⟨(skipU l).toArray⟩) ∧ Below w.heap.size w w' := by
  go_enter Tryd.func29, Tryd.ntmps29
  go_wp2
  go_loopw [5] (fun _ wr => ∃ k : Nat, k ≤ l.length ∧ wr.heap[w.heap.size]? = some (.stringIter ⟨l.toArray⟩ k) ∧ Below w.heap.size w wr ∧ skipU l = skipU (l.drop k)) (fun _ wr => l.length - wr.iterPos w.heap.size)
  case atStart => exact ⟨0, Nat.zero_le _, World.iter_heap w _ 0, (Below.refl _ _).alloc (Nat.le_refl _) _, rfl⟩
  case round =>
    obtain ⟨k, hk, hit, hb, hno⟩ := hrel
    have hmu := iterPos_of hit
    have HN := hid hno
    clear hno
    have hsz : w.heap.size + 1 ≤ wr.heap.size := (Array.getElem?_eq_some_iff.1 hit).1
    by_cases hlt : k < l.length
    · have HD := hid (drop_cons hlt)
      have hlt2 : k < (⟨l.toArray⟩ : ByteArray).size := by rw [size_mk]; exact hlt
      have hel : (⟨l.toArray⟩ : ByteArray)[k] = l[k] := rfl
      by_cases hasc : l[k].toNat < 128
      · have hnx : ∀ ty : TypeId, _ = Result.ok (Value.tuple #[.bool true, .int .i64 (k : Nat), .int .i32 (l[k].toNat : Nat)]) _ := fun ty => Lib.run_next_ascii_at (P := Tryd.prog) wr w.heap.size ⟨l.toArray⟩ k ty hit hlt2 hasc
        have hheap2 := Lib.iterAt_heap wr w.heap.size _ k (k + 1) hit
        have hb2 := Lib.below_iterAt hb (Nat.le_refl _) ⟨l.toArray⟩ (k + 1)
        rcases hc : ((l[k].toNat : Int) == 95) with _ | _
        all_goals
          have hc3 : (l[k].toNat == 95) = ((l[k].toNat : Int) == 95) := by rw [Bool.eq_iff_iff]; simp; omega
          rw [hc] at hc3
          have HC := hid hc3
          clear hc3
        · go_wp2_with (go_at_call 37; refine (zzInSet_any _ _).mono ?_; rintro e w' ⟨rfl, hb1⟩)
          go_ret
          refine ⟨?_, hb2.trans (hb1.mono (by rw [Lib.iterAt_size]; omega))⟩
          rw [HN.out, HD.out, skipU_cons, HC.out]
          refine congrArg Ending.returned (congrArg Value.string ?_)
          show (⟨l.toArray⟩ : ByteArray).extract k _ = _
          rw [← HD.out]
          exact extract_mk l k hk
        · go_wp2_with (go_at_call 37; refine (zzInSet_any _ _).mono ?_; rintro e w' ⟨rfl, hb1⟩)
          have hheap3 := (hb1.block w.heap.size (by rw [Lib.iterAt_size]; omega)).trans hheap2
          go_roundw
          case rel => exact ⟨k + 1, by omega, hheap3, hb2.trans (hb1.mono (by rw [Lib.iterAt_size]; omega)), by rw [HN.out, HD.out, skipU_cons, HC.out]; rfl⟩
          case measure => rw [iterPos_of hheap3]; omega
      · have hnx : ∀ ty : TypeId, _ = Result.ok (Value.tuple #[.bool true, .int .i64 (k : Nat), .int .i32 ((Utf8.decode (⟨l.toArray⟩ : ByteArray) k).1 : Nat)]) _ := fun ty => Lib.run_next_any_at (P := Tryd.prog) wr w.heap.size ⟨l.toArray⟩ k ty hit hlt2
        have hdh := (decode_high ⟨l.toArray⟩ k hlt2 (by rw [hel]; omega)).1
        have hb2 := Lib.below_iterAt hb (Nat.le_refl _) ⟨l.toArray⟩ (k + (Utf8.decode (⟨l.toArray⟩ : ByteArray) k).2)
        generalize Utf8.decode (⟨l.toArray⟩ : ByteArray) k = dc at *
        obtain ⟨rn, wd⟩ := dc
        simp only at hdh hnx hb2
        have hr95 : ((rn : Int) == 95) = false := by simp; omega
        have HC : Hid ((l[k].toNat == 95) = false) := hid (by simp; omega)
        go_wp2_with (go_at_call 37; refine (zzInSet_any _ _).mono ?_; rintro e w' ⟨rfl, hb1⟩)
        go_ret
        refine ⟨?_, hb2.trans (hb1.mono (by rw [Lib.iterAt_size]; omega))⟩
        rw [HN.out, HD.out, skipU_cons, HC.out]
        refine congrArg Ending.returned (congrArg Value.string ?_)
        show (⟨l.toArray⟩ : ByteArray).extract k _ = _
        rw [← HD.out]
        exact extract_mk l k hk
    · have hlt2 : ¬ k < (⟨l.toArray⟩ : ByteArray).size := by rw [size_mk]; exact hlt
      have hnx := fun ty => Lib.run_next_end_at (P := Tryd.prog) wr w.heap.size ⟨l.toArray⟩ k ty hit hlt2
      go_wp2_with fail
      go_ret
      refine ⟨?_, hb⟩
      rw [HN.out, List.drop_of_length_le (by omega)]
      rfl

theorem trimGo_nil (l : List UInt8) : trimGo l [] = some l := by cases l <;> rfl
theorem trimOut_some {s p l : List UInt8} (h : trimGo s p = some l) : trimOut s p = if (skipU l).isEmpty then s else skipU l := by unfold trimOut; rw [h]
theorem trimOut_none {s p : List UInt8} (h : trimGo s p = none) : trimOut s p = s := by unfold trimOut; rw [h]
theorem extract_one (c : UInt8) (l : List UInt8) : (⟨(c :: l).toArray⟩ : ByteArray).extract 1 (l.length + 1) = ⟨l.toArray⟩ := by
  have h := extract_mk (c :: l) 1 (by simp)
  rw [size_mk] at h
  exact h
theorem i32_byte (c : UInt8) : IntKind.i32.wrap (c.toNat : Int) = c.toNat := by
  have := byte_bd c
  simp [IntKind.wrap, IntKind.signed, IntKind.bits]
  omega
theorem head_byte (c : UInt8) (l : List UInt8) (h : 0 < (⟨(c :: l).toArray⟩ : ByteArray).size) : ((⟨(c :: l).toArray⟩ : ByteArray)[0]'h).toNat = c.toNat := rfl

set_option maxRecDepth 100000 in
theorem trimEnumPrefix_any (l p : List UInt8) (w : World) (hl : l.length ≤ 1000000) (_hl2 : p.length ≤ 1000000) (hp : ∀ c ∈ p, isLow c.toNat = true) (hV : Lib.CaseVar 3 Lib.caseA w) :
    Calls Tryd.prog 24 #[.string ⟨l.toArray⟩, .string ⟨p.toArray⟩] w fun e w' => e = .returned (.string ⟨(trimOut l p).toArray⟩) ∧ Below w.heap.size w w' := by
  have HP := hid hp
  clear hp
  go_enter Tryd.func24, Tryd.ntmps24
  go_wp2
  go_loopw [0, 1] (fun vs vp wr => ∃ l1 p1 : List UInt8, vs = .string ⟨l1.toArray⟩ ∧ vp = .string ⟨p1.toArray⟩ ∧ trimGo l p = trimGo l1 p1 ∧ l1.length ≤ l.length ∧ p1.length ≤ p.length ∧ (∀ c ∈ p1, isLow c.toNat = true) ∧ Below w.heap.size w wr)
    (fun vs _ _ => match vs with | .string s => s.size | _ => 0)
  case atStart => exact ⟨l, p, rfl, rfl, rfl, Nat.le_refl _, Nat.le_refl _, HP.out, Below.refl _ _⟩
  case round =>
    obtain ⟨l1, p1, rfl, rfl, heq, hle, hle2, hlow, hb⟩ := hrel
    have HE := hid heq
    have HL := hid hlow
    clear heq hlow
    have hV1 := caseVar_below hV hb
    rcases p1 with _ | ⟨q, p1⟩
    · have hg := HE.out.trans (trimGo_nil l1)
      have HG := hid (trimOut_some hg)
      clear hg
      rcases hs : (skipU l1) with _ | ⟨c, r⟩
      all_goals
        have HS := hid hs
        clear hs
        go_wp2_with (go_at_call 29; refine (zzTrimLeft_any l1 _ (by omega)).mono ?_; rintro e w' ⟨rfl, hb1⟩; rw [HS.out])
        all_goals
          go_ret
          exact ⟨by rw [HG.out, HS.out]; rfl, below_comp hb hb1⟩
    · rcases l1 with _ | ⟨c, l1⟩
      · have hg := HE.out
        rw [trimGo] at hg
        have HG := hid (trimOut_none hg)
        clear hg
        go_wp2_with fail
        go_ret
        exact ⟨by rw [HG.out]; rfl, hb⟩
      · simp only [List.length_cons] at hle hle2
        have hh1 := head_byte c l1 (by rw [size_mk]; simp)
        have hh2 := head_byte q p1 (by rw [size_mk]; simp)
        have hx1 := extract_one c l1
        have hx2 := extract_one q p1
        have hw1 := i32_byte c
        have hw2 := i32_byte q
        rcases hc : ((c.toNat : Int) == 95) with _ | _
        all_goals
          have hc3 : (c.toNat == 95) = ((c.toNat : Int) == 95) := by rw [Bool.eq_iff_iff]; simp; omega
          rw [hc] at hc3
          have hg := HE.out
          rw [trimGo, hc3] at hg
          simp only [Bool.false_eq_true, if_true, if_false] at hg
          have HG := hid hg
          clear hg hc3
        · have hq := low_byte c q (HL.out q (List.mem_cons_self))
          rcases hm : (lowI c.toNat == (q.toNat : Int)) with _ | _
          all_goals
            have hg2 := HG.out
            rw [hm] at hg2
            simp only [Bool.false_eq_true, if_true, if_false] at hg2
            have HG2 := hid hg2
            clear hg2
            rw [hm] at hq
            have hq2 : (Lib.toLowerU c.toNat != (q.toNat : Int)) = !(Lib.toLowerU c.toNat == (q.toNat : Int)) := rfl
            rw [hq] at hq2
            simp only [Bool.not_true, Bool.not_false] at hq2
          · have HG3 := hid (trimOut_none HG2.out)
            go_wp2_with fail
            go_quiet (first | (go_at_call 28; refine Calls.quiet_of (Tryd.unicode_ToLower_laid _ _ ?_); exact caseVar_below hV1 (below_drewQ (Below.refl _ _) _)))
            go_wp2_with fail
            go_ret
            exact ⟨by rw [HG3.out]; rfl, below_drewQ hb _⟩
          · go_wp2_with fail
            go_quiet (first | (go_at_call 28; refine Calls.quiet_of (Tryd.unicode_ToLower_laid _ _ ?_); exact caseVar_below hV1 (below_drewQ (Below.refl _ _) _)))
            go_wp2_with fail
            go_quiet (fail)
            go_wp2_with fail
            go_roundw
            case rel => exact ⟨l1, p1, rfl, rfl, HG2.out, by omega, by omega, fun x hx => HL.out x (List.mem_cons_of_mem _ hx), below_drewQ (below_drewQ hb _) _⟩
            case measure => simp [size_mk]
        · go_wp2_with fail
          go_roundw
          case rel => exact ⟨l1, q :: p1, rfl, rfl, HG.out, by omega, hle2, HL.out, hb⟩
          case measure => simp [size_mk]

theorem isDigit_any (c : Int) (w : World) :
    Calls Tryd.prog 23 #[.int .u8 c] w fun e w' => e = .returned (.bool (isDig c)) ∧ w = w' := by
  go_enter Tryd.func23, Tryd.ntmps23
  go_wp2
  all_goals go_ret
  all_goals exact ⟨by simp [isDig, *] <;> omega, rfl⟩
theorem toList_mk (l : List UInt8) : (⟨l.toArray⟩ : ByteArray).toList = l := by rw [ByteArray.toList_eq, data_mk]
theorem low_not_und {q : UInt8} (h : isLow q.toNat = true) : ((q.toNat : Int) == 95) = false ∧ isUp q.toNat = false := by
  simp only [isLow, Bool.and_eq_true, decide_eq_true_eq] at h
  constructor
  · simp; omega
  · simp [isUp]; omega

/-- What the reference gives: the text, and 1 for told, 2 for open. -/
def trimSpec (s p : List UInt8) : List UInt8 × Nat := match trimGo s p with
  | none => (s, 1)
  | some r => match skipU r with
    | [] => (s, 1)
    | c :: t => if isDig c.toNat || (p.isEmpty && (c :: t) != s) then ([], 2) else (c :: t, 1)
def trimVal (x : List UInt8 × Nat) : Value := .tuple #[.string ⟨x.1.toArray⟩, .int .i64 x.2]

set_option maxRecDepth 100000 in
theorem specTrim_any (l p : List UInt8) (w : World) (_hl : l.length ≤ 1000000) (hl2 : p.length ≤ 1000000) (hp : ∀ c ∈ p, isLow c.toNat = true) :
    Calls Tryd.prog 12 #[.string ⟨l.toArray⟩, .string ⟨p.toArray⟩] w fun e w' => e = .returned (trimVal (trimSpec l p)) ∧ Below w.heap.size w w' := by
  have HP := hid hp
  clear hp
  go_enter Tryd.func12, Tryd.ntmps12
  go_wp2
  go_loopw [6, 7] (fun vs vi wr => ∃ (l1 : List UInt8) (j : Nat), vs = .string ⟨l1.toArray⟩ ∧ vi = .int .i64 j ∧ j ≤ p.length ∧ trimGo l p = trimGo l1 (p.drop j) ∧ l1.length ≤ l.length ∧ Below w.heap.size w wr)
    (fun vs vi _ => (match vs with | .string s => s.size | _ => 0) + (p.length - (intOf vi).toNat))
  case atStart => exact ⟨l, 0, rfl, rfl, Nat.zero_le _, rfl, Nat.le_refl _, Below.refl _ _⟩
  case round =>
    obtain ⟨l1, j, rfl, rfl, hj, heq, hle, hb⟩ := hrel
    have HE := hid heq
    clear heq
    have htl := toList_mk l1
    by_cases hlt : j < p.length
    · have hq := HP.out p[j] (List.getElem_mem _)
      obtain ⟨hq1, hq2⟩ := low_not_und hq
      clear hq
      have hix : ((⟨p.toArray⟩ : ByteArray)[j]'(by rw [size_mk]; exact hlt)).toNat = p[j].toNat := rfl
      have HD := hid (drop_cons hlt)
      rcases l1 with _ | ⟨c, l1⟩
      · have hg := HE.out
        rw [HD.out, trimGo] at hg
        have HG := hid hg
        clear hg
        go_wp2_with (go_at_call 22; refine (isUpper_any _ _).mono ?_; rintro e w' ⟨rfl, rfl⟩)
        go_ret2
        exact ⟨by unfold trimSpec; rw [HG.out]; rfl, hb⟩
      · have hh1 := head_byte c l1 (by rw [size_mk]; simp)
        have hx1 := extract_one c l1
        have bdl := lowI_bd c
        simp only [List.length_cons] at hle
        rcases hc : ((c.toNat : Int) == 95) with _ | _
        all_goals
          have hc3 : (c.toNat == 95) = ((c.toNat : Int) == 95) := by rw [Bool.eq_iff_iff]; simp; omega
          rw [hc] at hc3
          have hg := HE.out
          rw [HD.out, trimGo, hc3] at hg
          simp only [Bool.false_eq_true, if_true, if_false] at hg
          have HG := hid hg
          clear hg hc3
        · rcases hm : (lowI c.toNat == (p[j].toNat : Int)) with _ | _
          all_goals
            have hg2 := HG.out
            rw [hm] at hg2
            simp only [Bool.false_eq_true, if_true, if_false] at hg2
            have HG2 := hid hg2
            clear hg2
            have hm2 : (lowI c.toNat != (p[j].toNat : Int)) = !(lowI c.toNat == (p[j].toNat : Int)) := rfl
            rw [hm] at hm2
            simp only [Bool.not_true, Bool.not_false] at hm2
            go_wp2_with (go_at_call 22; refine (isUpper_any _ _).mono ?_; rintro e w' ⟨rfl, rfl⟩)
            go_quiet (first | (go_at_call 21; refine Calls.quiet_of_same ((lower_any _ _).mono fun _ _ h => ⟨h.1, h.2.symm⟩)))
            go_wp2_with fail
          · go_ret2
            exact ⟨by unfold trimSpec; rw [HG2.out]; rfl, below_drewQ hb _⟩
          · go_roundw
            case rel => exact ⟨l1, j + 1, rfl, by go_num, by omega, HG2.out, by omega, below_drewQ hb _⟩
            case measure => simp [size_mk, intOf]; omega
        · go_wp2_with (go_at_call 22; refine (isUpper_any _ _).mono ?_; rintro e w' ⟨rfl, rfl⟩)
          go_roundw
          case rel => exact ⟨l1, j, rfl, rfl, hj, by rw [HG.out, HD.out], by omega, hb⟩
          case measure => simp [size_mk, intOf]
    · obtain rfl : j = p.length := by omega
      have hg := HE.out
      rw [List.drop_length, trimGo_nil] at hg
      have HG := hid hg
      clear hg hlt HE hj
      go_wp2_with fail
      go_loopw [6] (fun vs w2 => ∃ (l2 : List UInt8), vs = .string ⟨l2.toArray⟩ ∧ skipU l1 = skipU l2 ∧ l2.length ≤ l1.length ∧ w2 = wr)
        (fun vs _ => (match vs with | .string s => s.size | _ => 0))
      case atStart => exact ⟨l1, rfl, rfl, Nat.le_refl _, rfl⟩
      case round =>
        obtain ⟨l2, rfl, heq, hle2, rfl⟩ := hrel
        have HS := hid heq
        clear heq
        have htl2 := toList_mk l2
        rcases l2 with _ | ⟨c, l2⟩
        · go_wp2_with fail
          go_ret2
          exact ⟨by unfold trimSpec; rw [HG.out]; simp only; rw [HS.out, skipU_nil]; rfl, hb⟩
        · have hh1 := head_byte c l2 (by rw [size_mk]; simp)
          have hx1 := extract_one c l2
          simp only [List.length_cons] at hle2
          have htl3 := toList_mk l
          have htl4 := toList_mk p
          rcases hc : ((c.toNat : Int) == 95) with _ | _
          all_goals
            have hc3 : (c.toNat == 95) = ((c.toNat : Int) == 95) := by rw [Bool.eq_iff_iff]; simp; omega
            rw [hc] at hc3
            have hg := HS.out
            rw [skipU_cons, hc3] at hg
            simp only [Bool.false_eq_true, if_true, if_false] at hg
            have HC := hid hg
            clear hg hc3
          · have hspec : trimSpec l p = if isDig c.toNat || (p.isEmpty && (c :: l2) != l) then ([], 2) else (c :: l2, 1) := by
              unfold trimSpec
              rw [HG.out]
              show (match skipU l1 with | [] => _ | c :: t => _) = _
              rw [HC.out]
            have HSP := hid hspec
            clear hspec
            rcases hd : isDig c.toNat with _ | _
            all_goals
              have HDd := hid hd
              rcases hp1 : p with _ | ⟨q, p1⟩
              all_goals
                rcases hn : (c :: l2) == l with _ | _
                all_goals
                  subst hp1
                  have HN := hid (show ((c :: l2) != l) = !((c :: l2) == l) from rfl)
                  have HN2 := hid hn
                  go_wp2_with (go_at_call 23; refine (isDigit_any _ _).mono ?_; rintro e w' ⟨rfl, rfl⟩)
                  go_ret2
                  exact ⟨by rw [HSP.out, HN.out, HN2.out, HDd.out]; rfl, hb⟩
          · go_wp2_with fail
            go_roundw
            case rel => exact ⟨l2, rfl, HC.out, by omega, by first | rfl | trivial⟩
            case measure => simp [size_mk]
end Go.Proofs.YtnammoimjcgdmaaDoor
