/-
  Characters that are written as escapes of 16 bits are read as these by the package's reader. Plain functions.
-/
import Derived.Test.YtjkmmhnhhiopiaaDoorFForms
namespace Go.Proofs.YtjkmmhnhhiopiaaDoor

def okC (c : Nat) : Prop := c < 55296 ∨ 57344 ≤ c ∧ c ≤ 1114111
def escOne (c : Nat) : List UInt8 :=
  if c < 65536 then esc4 false false false false c
  else esc4 false false false false (55296 + (c - 65536) / 1024) ++ esc4 false false false false (56320 + (c - 65536) % 1024)
def escAll (l : List Nat) : List UInt8 := l.flatMap escOne
def wantAll (l : List Nat) : List UInt8 := l.flatMap encU
theorem escOne_len (c : Nat) : (escOne c).length ≤ 12 := by
  unfold escOne; split
  · exact (by decide : 6 ≤ 12)
  · exact Nat.le_refl _
theorem escAll_len (l : List Nat) : (escAll l).length ≤ 12 * l.length ∧ (wantAll l).length ≤ 4 * l.length := by
  induction l with
  | nil => exact ⟨Nat.le_refl _, Nat.le_refl _⟩
  | cons c l ih =>
    have h1 := escOne_len c
    have h2 := encU_le c
    unfold escAll wantAll at ih ⊢
    simp only [List.flatMap_cons, List.length_append, List.length_cons]
    omega
theorem strA_escOne {c : Nat} (h : okC c) (r acc : List UInt8) : strA (escOne c ++ r) acc = strA r (acc ++ encU c) := by
  unfold okC at h
  unfold escOne
  split
  · exact strA_esc (escJ_one false false false false c (by omega) (by omega) r)
  · rename_i hc
    have hm := Nat.mod_lt (c - 65536) (show 1024 > 0 by decide)
    have he := escJ_two false false false false false false false false (55296 + (c - 65536) / 1024) (56320 + (c - 65536) % 1024) (by omega) (by omega) r
    rw [show (55296 + (c - 65536) / 1024 - 55296) * 1024 + (56320 + (c - 65536) % 1024 - 56320) + 65536 = c by omega] at he
    rw [List.append_assoc]
    exact strA_esc he
theorem strA_escAll : ∀ (l : List Nat), (∀ c ∈ l, okC c) → ∀ r acc, strA (escAll l ++ r) acc = strA r (acc ++ wantAll l)
  | [], _, r, acc => by simp [escAll, wantAll]
  | c :: l, h, r, acc => by
    have ih := strA_escAll l (fun d hd => h d (by simp [hd])) r (acc ++ encU c)
    have h1 := strA_escOne (h c (by simp)) (escAll l ++ r) acc
    unfold escAll wantAll at ih ⊢
    unfold escAll at h1
    simp only [List.flatMap_cons, List.append_assoc] at ih h1 ⊢
    rw [h1, ih]
/-- a string alone -/
theorem string_reads {S t : List UInt8} (h : ∀ r acc, strA (S ++ r) acc = strA r (acc ++ t)) : allJ (34 :: (S ++ [34])) [] = ([⟨16, 0, 34 :: (S ++ [34]), false, t⟩], true) := by
  have hx : Lexed 16 t false (34 :: (S ++ [34])) := by
    refine ⟨fun r _ => ?_, 34, S ++ [34], rfl, by decide⟩
    have hs : strJ (34 :: (S ++ [34]) ++ r) = some (t, (34 :: (S ++ [34])).length) := by
      simp only [List.cons_append, List.append_assoc, List.nil_append]
      rw [strJ_cons, h, List.nil_append, strA_some (u8char_ascii 34 r (by decide)), if_pos (by decide)]
      simp only [List.length_cons, List.length_append, List.length_nil, Nat.add_sub_cancel]
      congr 2
      omega
    rw [List.cons_append] at hs ⊢
    rw [nextJ_cons, if_neg (by decide), if_neg (by decide), if_neg (by decide), if_neg (by decide), if_pos (by decide), hs]
  generalize hb : 34 :: (S ++ [34]) = b at hx
  obtain ⟨a, h1, h2, h3⟩ := read_leaf (bs := b) (pre := []) (q := 0) (text := b) (r := []) (st := []) (last := 0) at_new hx (.inr Delim.nil) (by simp [spaceT]) rfl (by decide)
  refine run_all (n := b.length) (Chain.one h1 h2 (by simp) (by simp)) (by simpa [spaceT] using h3) (by decide) ?_
  rw [goN_zero, List.drop_length]; rfl
theorem escapes_read (l : List Nat) (h : ∀ c ∈ l, okC c) : allJ (34 :: (escAll l ++ [34])) [] = ([⟨16, 0, 34 :: (escAll l ++ [34]), false, wantAll l⟩], true) := string_reads (strA_escAll l h)
end Go.Proofs.YtjkmmhnhhiopiaaDoor
