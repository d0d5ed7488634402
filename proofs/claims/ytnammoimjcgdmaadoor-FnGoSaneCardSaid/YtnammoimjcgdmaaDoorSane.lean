/-
  The law FnGoSane: what the package's name-making gives, and what the reference asks of it.
-/
import Derived.Test.YtnammoimjcgdmaaDoorWords
import Derived.Test.YtnammoimjcgdmaaDoorShelfm
import Derived.Deep.QuietTactic
import Derived.BigQuiet
import Derived.Lib.OthersKept
namespace Go.Proofs.YtnammoimjcgdmaaDoor
open Go.ChangeShapes Go.WideShapes Go.ChangeAt Go.RowKit
open Go.ChangeMaps (open_string shut_string)

def keysL : List (List UInt8) := [[98, 114, 101, 97, 107],
  [99, 97, 115, 101],
  [99, 104, 97, 110],
  [99, 111, 110, 115, 116],
  [99, 111, 110, 116, 105, 110, 117, 101],
  [100, 101, 102, 97, 117, 108, 116],
  [100, 101, 102, 101, 114],
  [101, 108, 115, 101],
  [102, 97, 108, 108, 116, 104, 114, 111, 117, 103, 104],
  [102, 111, 114],
  [102, 117, 110, 99],
  [103, 111],
  [103, 111, 116, 111],
  [105, 102],
  [105, 109, 112, 111, 114, 116],
  [105, 110, 116, 101, 114, 102, 97, 99, 101],
  [109, 97, 112],
  [112, 97, 99, 107, 97, 103, 101],
  [114, 97, 110, 103, 101],
  [114, 101, 116, 117, 114, 110],
  [115, 101, 108, 101, 99, 116],
  [115, 116, 114, 117, 99, 116],
  [115, 119, 105, 116, 99, 104],
  [116, 121, 112, 101],
  [118, 97, 114]]
def isKey (l : List UInt8) : Bool := keysL.any fun k => l == k
def letC (c : Int) : Bool := isUp c || isLow c
def san (c : UInt8) : UInt8 := if letC c.toNat || isDig c.toNat then c else 95
def letHead : List UInt8 → Bool
  | [] => false
  | c :: _ => letC c.toNat
/-- What the package makes of a text of ASCII. -/
def goSan (l : List UInt8) : List UInt8 := if isKey (l.map san) || !letHead (l.map san) then 95 :: l.map san else l.map san
def wordC (c : UInt8) : Bool := letC c.toNat || isDig c.toNat || c.toNat == 95

theorem keys_head : (keysL.all fun k => letHead k) = true := by kernel_rfl
theorem isKey_und (l : List UInt8) : isKey (95 :: l) = false := by
  unfold isKey
  rw [List.any_eq_false]
  intro k hk h
  have h1 := List.all_eq_true.1 keys_head k hk
  have h2 : 95 :: l = k := by simpa using h
  subst h2
  have h3 : letHead (95 :: l) = false := rfl
  rw [h3] at h1
  cases h1
theorem san_word (c : UInt8) : wordC (san c) = true := by
  unfold wordC san
  split
  · rename_i h; simp only [Bool.or_eq_true] at h ⊢; exact .inl h
  · decide
theorem san_idem (c : UInt8) : san (san c) = san c := by
  by_cases h : (letC c.toNat || isDig c.toNat) = true
  · have : san c = c := by unfold san; rw [if_pos h]
    rw [this, this]
  · have : san c = 95 := by unfold san; rw [if_neg h]
    rw [this]; decide
theorem san_ascii (c : UInt8) (h : c.toNat < 128) : (san c).toNat < 128 := by
  unfold san; split
  · exact h
  · decide
theorem map_san_idem (l : List UInt8) : (l.map san).map san = l.map san := by
  rw [List.map_map]; exact List.map_congr_left fun c _ => san_idem c
theorem goSan_word (l : List UInt8) : ∀ c ∈ goSan l, wordC c = true := by
  intro c hc
  unfold goSan at hc
  split at hc
  · rcases List.mem_cons.1 hc with rfl | hc
    · decide
    · obtain ⟨d, _, rfl⟩ := List.mem_map.1 hc; exact san_word d
  · obtain ⟨d, _, rfl⟩ := List.mem_map.1 hc; exact san_word d
theorem goSan_key (l : List UInt8) : isKey (goSan l) = false := by
  unfold goSan
  split
  · exact isKey_und _
  · rename_i h; simp only [Bool.or_eq_true, not_or, Bool.not_eq_true] at h; exact h.1
theorem goSan_ascii (l : List UInt8) (h : ∀ c ∈ l, c.toNat < 128) : ∀ c ∈ goSan l, c.toNat < 128 := by
  have h1 : ∀ c ∈ l.map san, c.toNat < 128 := fun c hc => by obtain ⟨d, hd, rfl⟩ := List.mem_map.1 hc; exact san_ascii d (h d hd)
  unfold goSan
  split
  · intro c hc; rcases List.mem_cons.1 hc with rfl | hc
    · decide
    · exact h1 c hc
  · exact h1
theorem goSan_len (l : List UInt8) : (goSan l).length ≤ l.length + 1 := by
  unfold goSan; split <;> simp
theorem goSan_cases (l : List UInt8) : (∃ r, goSan l = 95 :: r) ∨ (∃ c r, goSan l = c :: r ∧ letC c.toNat = true ∧ goSan (c :: r) = c :: r) := by
  by_cases h : (isKey (l.map san) || !letHead (l.map san)) = true
  · exact .inl ⟨_, by unfold goSan; rw [if_pos h]⟩
  · have hg : goSan l = l.map san := by unfold goSan; rw [if_neg h]
    right
    cases hm : l.map san with
    | nil => rw [hm] at h; exact absurd rfl h
    | cons c r =>
      refine ⟨c, r, hg.trans hm, ?_, ?_⟩
      · rw [hm] at h
        simp only [Bool.or_eq_true, not_or, Bool.not_eq_true, Bool.not_eq_false'] at h
        simpa [letHead] using h.2
      · rw [← hm]
        unfold goSan
        rw [map_san_idem, if_neg h]

/-- The tables that Go's library reads. -/
def Tabs (w : World) : Prop := Lib.TabIs Tryd.prog w "unicode.properties" .u8 Lib.propertiesTab ∧ Lib.RVar 1 Lib.letterT w ∧ Lib.RVar 2 Lib.digitT w ∧ Lib.Utf8Tabs 4 5 w
theorem Tabs.below {w w' : World} (h : Tabs w) (hb : Below w.heap.size w w') : Tabs w' :=
  ⟨TabIs_below (g := 0) (by kernel_rfl) h.1 hb, RVar_below h.2.1 hb, RVar_below h.2.2.1 hb, Utf8Tabs_below h.2.2.2 hb⟩

theorem ascii_all : ((List.range 128).all fun c => (Lib.isLetterU c == letC c) && (Lib.isDigitU c == isDig c)) = true := by kernel_rfl
theorem letU (c : UInt8) (h : c.toNat < 128) : Lib.isLetterU c.toNat = letC c.toNat ∧ Lib.isDigitU c.toNat = isDig c.toNat := by
  have h1 := List.all_eq_true.1 ascii_all c.toNat (List.mem_range.2 h)
  simpa using h1
theorem letU_bad : Lib.isLetterU 65533 = false := by kernel_rfl

def sanR (r : Int) : Int := if Lib.isLetterU r || Lib.isDigitU r then r else 95

set_option maxRecDepth 100000 in
theorem sanR_any (x : Nat) (hx : x ≤ 1114111) (w : World) (hT : Tabs w) :
    Calls Tryd.prog 31 #[.int .i32 x] w fun e w' => e = .returned (.int .i32 (sanR x)) ∧ Below w.heap.size w w' := by
  have hb0 := Below.refl w.heap.size w
  have c1 := fun w' (hT' : Tabs w') => Tryd.unicode_IsLetter_all x w' (by omega) (by omega) hT'.1 hT'.2.1
  have c2 := fun w' (hT' : Tabs w') => Tryd.unicode_IsDigit_all x w' (by omega) (by omega) hT'.2.2.1
  have HS := hid (show sanR x = if Lib.isLetterU x || Lib.isDigitU x then (x : Int) else 95 from rfl)
  rcases h1 : Lib.isLetterU x with _ | _ <;> rcases h2 : Lib.isDigitU x with _ | _
  all_goals
    rw [h1] at c1
    rw [h2] at c2
    have H1 := hid h1
    have H2 := hid h2
    clear h1 h2
    go_enter Tryd.func31, Tryd.ntmps31
    go_wp2_with (first | (go_at_call 32; refine (c1 _ hT).mono ?_; rintro e w1 ⟨rfl, hb1⟩; have hT1 := hT.below hb1) | (go_at_call 33; refine (c2 _ hT1).mono ?_; rintro e w2 ⟨rfl, hb2⟩; replace hb1 := below_comp hb1 hb2))
    go_ret
    exact ⟨by rw [HS.out, H1.out, H2.out]; rfl, hb1⟩

theorem sanR_bd (x : Nat) (h : x ≤ 1114111) : -2147483648 ≤ sanR x ∧ sanR x ≤ 2147483647 := by
  unfold sanR; split <;> omega
theorem sanR_byte (c : UInt8) (h : c.toNat < 128) : Lib.encodeRune (sanR c.toNat) = [san c] := by
  obtain ⟨h1, h2⟩ := letU c h
  unfold sanR san
  rw [h1, h2]
  split
  · unfold Lib.encodeRune
    rw [Lib.encodeRuneZ_one (by omega) (by omega)]
    simp
  · rfl
theorem mapGoD_ascii : ∀ (n : Nat) (l : List UInt8), l.length ≤ n → (∀ c ∈ l, c.toNat < 128) → Lib.mapGoD sanR n l = l.map san
  | 0, [], _, _ => rfl
  | n + 1, [], _, _ => rfl
  | n + 1, c :: l, hn, h => by
    have hc := h c List.mem_cons_self
    have hd : Lib.decodeL (c :: l) = (c.toNat, 1) := decode_ascii ⟨(c :: l).toArray⟩ 0 (by rw [size_mk]; simp) hc
    unfold Lib.mapGoD
    rw [if_neg (by simp), hd]
    have ih := mapGoD_ascii n l (by simp at hn; omega) (fun d hd => h d (List.mem_cons_of_mem _ hd))
    have h0 : 0 ≤ sanR c.toNat := by unfold sanR; split <;> omega
    simp only [List.drop_succ_cons, List.drop_zero]
    rw [if_pos h0, sanR_byte c hc, ih]
    rfl
theorem mapD_ascii (l : List UInt8) (h : ∀ c ∈ l, c.toNat < 128) : Lib.mapD sanR l = l.map san := mapGoD_ascii _ l (Nat.le_refl _) h

set_option maxRecDepth 100000 in
theorem zzKeyword_any (l : List UInt8) (w : World) :
    Calls Tryd.prog 35 #[.string ⟨l.toArray⟩] w fun e w' => e = .returned (.bool (isKey l)) ∧ w = w' := by
  have htl : (⟨l.toArray⟩ : ByteArray).toList = l := by rw [ByteArray.toList_eq, data_mk]
  go_enter Tryd.func35, Tryd.ntmps35
  go_wp2_with fail
  all_goals go_ret
  all_goals refine ⟨?_, rfl⟩
  all_goals first | (exfalso; rename_i h1 h2; rw [h1] at h2; cases h2; done) | simp [isKey, keysL, *]

theorem decodeGo_ascii (c : UInt8) (l : List UInt8) (h : c.toNat < 128) : Lib.decodeGo ⟨(c :: l).toArray⟩ = (c.toNat, 1) := by
  unfold Lib.decodeGo
  rw [if_neg (by rw [size_mk]; simp)]
  exact decode_ascii ⟨(c :: l).toArray⟩ 0 (by rw [size_mk]; simp) h
theorem cat_und (l : List UInt8) : (⟨#[95]⟩ : ByteArray) ++ (⟨l.toArray⟩ : ByteArray) = ⟨(95 :: l).toArray⟩ := by
  apply ByteArray.ext
  simp

set_option maxRecDepth 100000 in
set_option maxHeartbeats 1000000 in
theorem goSanitized_any (l : List UInt8) (w : World) (hl : l.length ≤ 1000000) (ha : ∀ c ∈ l, c.toNat < 128) (hT : Tabs w) :
    Calls Tryd.prog 25 #[.string ⟨l.toArray⟩] w fun e w' => e = .returned (.string ⟨(goSan l).toArray⟩) ∧ Below w.heap.size w w' := by
  have hm := mapD_ascii l ha
  have cM : Calls Tryd.prog 30 #[.func (.func 31) #[] #[], .string ⟨l.toArray⟩] w fun e w' => e = .returned (.string ⟨(l.map san).toArray⟩) ∧ Below w.heap.size w w' := by
    have h := Tryd.strings_Map_grows 31 #[] (fun _ _ => rfl) sanR ⟨l.toArray⟩ w (by rw [size_mk]; omega) (fun W x hx hb => sanR_any x hx W (hT.below hb)) sanR_bd hT.2.2.2
    rw [data_mk, hm] at h
    exact h
  clear hm
  have ha2 : ∀ c ∈ l.map san, c.toNat < 128 := fun c hc => by obtain ⟨d, hd, rfl⟩ := List.mem_map.1 hc; exact san_ascii d (ha d hd)
  have hg : goSan l = if isKey (l.map san) || !letHead (l.map san) then 95 :: l.map san else l.map san := rfl
  have hlm : (l.map san).length = l.length := List.length_map ..
  generalize l.map san = m at *
  have hcat := cat_und m
  rcases m with _ | ⟨c, m⟩
  · have HG := hid hg
    clear hg
    have cD : ∀ w, Tabs w → Calls Tryd.prog 34 #[.string ⟨#[]⟩] w fun e w' => e = .returned (.tuple #[.int .i32 65533, .int .i64 0]) ∧ Below w.heap.size w w' := fun w hT => Tryd.utf8_DecodeRuneInString ⟨#[]⟩ w hT.2.2.2
    have cK : ∀ w, Calls Tryd.prog 35 #[.string ⟨#[]⟩] w fun e w' => e = .returned (.bool false) ∧ w = w' := fun w => zzKeyword_any [] w
    have cL : ∀ w, Tabs w → Calls Tryd.prog 32 #[.int .i32 65533] w fun e w' => e = .returned (.bool false) ∧ Below w.heap.size w w' := fun w hT => letU_bad ▸ Tryd.unicode_IsLetter_all 65533 w (by omega) (by omega) hT.1 hT.2.1
    go_enter Tryd.func25, Tryd.ntmps25
    go_wp2_with (first | (go_at_call 30; refine cM.mono ?_; rintro e w1 ⟨rfl, hb1⟩; have hT1 := hT.below hb1) | (go_at_call 34; refine (cD _ hT1).mono ?_; rintro e w2 ⟨rfl, hb2⟩; have hT2 := hT1.below hb2; replace hb2 := below_comp hb1 hb2) | (go_at_call 35; refine (cK _).mono ?_; rintro e w' ⟨rfl, rfl⟩) | (go_at_call 32; refine (cL _ hT2).mono ?_; rintro e w3 ⟨rfl, hb3⟩; replace hb3 := below_comp hb2 hb3))
    go_ret
    exact ⟨by rw [HG.out]; rfl, hb3⟩
  · have hc := ha2 c List.mem_cons_self
    have hcI : (c.toNat : Int) < 128 := by omega
    have hdG := decodeGo_ascii c m hc
    have hlu := (letU c hc).1
    have cD : ∀ w, Tabs w → Calls Tryd.prog 34 #[.string ⟨(c :: m).toArray⟩] w fun e w' => e = .returned (.tuple #[.int .i32 c.toNat, .int .i64 1]) ∧ Below w.heap.size w w' := fun w hT => by
      have h := Tryd.utf8_DecodeRuneInString ⟨(c :: m).toArray⟩ w hT.2.2.2
      rw [hdG] at h
      exact h
    have cK : ∀ w, Calls Tryd.prog 35 #[.string ⟨(c :: m).toArray⟩] w fun e w' => e = .returned (.bool (isKey (c :: m))) ∧ w = w' := fun w => zzKeyword_any (c :: m) w
    have cL : ∀ w, Tabs w → Calls Tryd.prog 32 #[.int .i32 c.toNat] w fun e w' => e = .returned (.bool (letHead (c :: m))) ∧ Below w.heap.size w w' := fun w hT => by
      have h := Tryd.unicode_IsLetter_all c.toNat w (by omega) (by omega) hT.1 hT.2.1
      rw [hlu] at h
      exact h
    clear hlu hdG hcI
    simp only [List.length_cons] at hlm
    rcases hk : isKey (c :: m) with _ | _ <;> rcases hh : letHead (c :: m) with _ | _
    all_goals
      rw [hk] at cK
      rw [hh] at cL
      rw [hk, hh] at hg
      have HG := hid hg
      clear hg hk hh
      go_enter Tryd.func25, Tryd.ntmps25
      go_wp2_with (first | (go_at_call 30; refine cM.mono ?_; rintro e w1 ⟨rfl, hb1⟩; have hT1 := hT.below hb1) | (go_at_call 34; refine (cD _ hT1).mono ?_; rintro e w2 ⟨rfl, hb2⟩; have hT2 := hT1.below hb2; replace hb2 := below_comp hb1 hb2) | (go_at_call 35; refine (cK _).mono ?_; rintro e w' ⟨rfl, rfl⟩) | (go_at_call 32; refine (cL _ hT2).mono ?_; rintro e w3 ⟨rfl, hb3⟩; replace hb3 := below_comp hb2 hb3))
      go_ret
      exact ⟨by rw [HG.out]; rfl, by first | exact hb3 | exact hb2⟩
end Go.Proofs.YtnammoimjcgdmaaDoor
