/-
  The reference's writer of JSON, as plain functions: what it writes, its tokens, and how long they are.
-/
import Derived.Test.YtjkmmhnhhiopiaaDoorWeight
import Derived.Test.YtjkmmhnhhiopiaaDoorUtf8Size
namespace Go.Proofs.YtjkmmhnhhiopiaaDoor

structure JT where
  kind : Nat
  pos : Nat
  raw : List UInt8
  str : List UInt8
  tru : Bool

structure JS where
  b : List UInt8
  k : Nat
  l : List JT

def pickV (ps : List UInt8) (k n : Nat) : Nat := if ps.length = 0 then 0 else (ps.getD (k % ps.length) 0).toNat % n
def pickK (ps : List UInt8) (k : Nat) : Nat := if ps.length = 0 then k else k + 1
theorem pickK_le (ps : List UInt8) (k : Nat) : pickK ps k ≤ k + 1 := by unfold pickK; split <;> omega
theorem pickV_lt (ps : List UInt8) (k n : Nat) (h : 0 < n) : pickV ps k n < n := by
  unfold pickV; split
  · exact h
  · exact Nat.mod_lt _ h

def spaceT (n : Nat) : List UInt8 := match n with
  | 3 => [32]
  | 4 => [10]
  | 5 => [9]
  | 6 => [13, 10]
  | 7 => [32, 32, 10, 32]
  | _ => []
theorem spaceT_le (n : Nat) : (spaceT n).length ≤ 4 := by unfold spaceT; split <;> decide

def spaceJ (ps : List UInt8) (s : JS) : JS := { s with b := s.b ++ spaceT (pickV ps s.k 8), k := pickK ps s.k }
def byteJ (c : UInt8) (s : JS) : JS := { s with b := s.b ++ [c] }
def putJ (kind : Nat) (str : List UInt8) (tru : Bool) (text : List UInt8) (s : JS) : JS := { s with b := s.b ++ text, l := s.l ++ [⟨kind, s.b.length, text, str, tru⟩] }
def tokenJ (ps : List UInt8) (kind : Nat) (str : List UInt8) (tru : Bool) (text : List UInt8) (s : JS) : JS := putJ kind str tru text (spaceJ ps s)
def commaJ (ps : List UInt8) (i : Nat) (s : JS) : JS := if 0 < i then byteJ 44 (spaceJ ps s) else s
def colonJ (ps : List UInt8) (s : JS) : JS := byteJ 58 (spaceJ ps s)

def hexT (up : Bool) (n : Nat) : UInt8 := UInt8.ofNat (if n < 10 then 48 + n else if up then 55 + n else 87 + n)
def hexJ (ps : List UInt8) (k n : Nat) : UInt8 := hexT (pickV ps k 2 == 1) (n % 16)
def escapedJ (ps : List UInt8) (k c : Nat) : List UInt8 :=
  let k1 := pickK ps k
  let k2 := pickK ps k1
  let k3 := pickK ps k2
  [92, 117, hexJ ps k (c / 4096), hexJ ps k1 (c / 256), hexJ ps k2 (c / 16), hexJ ps k3 c]
def escapedK (ps : List UInt8) (k : Nat) : Nat := pickK ps (pickK ps (pickK ps (pickK ps k)))
theorem escapedK_le (ps : List UInt8) (k : Nat) : escapedK ps k ≤ k + 4 := by
  unfold escapedK
  have h1 := pickK_le ps k
  have h2 := pickK_le ps (pickK ps k)
  have h3 := pickK_le ps (pickK ps (pickK ps k))
  have h4 := pickK_le ps (pickK ps (pickK ps (pickK ps k)))
  omega
theorem escapedJ_len (ps : List UInt8) (k c : Nat) : (escapedJ ps k c).length = 6 := rfl

def shortE (c : Nat) : Nat := if c = 34 ∨ c = 92 ∨ c = 47 then c else if c = 8 then 98 else if c = 12 then 102 else if c = 10 then 110 else if c = 13 then 114 else if c = 9 then 116 else 0
def mustE (c : Nat) : Bool := decide (c < 32) || c == 34 || c == 92

/-- a character of a string: its code c, its bytes u -/
def charJ (ps : List UInt8) (k c : Nat) (u : List UInt8) : List UInt8 × Nat :=
  let ch := pickV ps k 4
  let k1 := pickK ps k
  if shortE c ≠ 0 ∧ ch < 2 ∧ (mustE c = true ∨ ch = 1) then ([92, UInt8.ofNat (shortE c)], k1)
  else if mustE c = false ∧ ch < 3 then (u, k1)
  else if 65536 ≤ c then
    (escapedJ ps k1 (55296 + (c - 65536) / 1024) ++ escapedJ ps (escapedK ps k1) (56320 + (c - 65536) % 1024), escapedK ps (escapedK ps k1))
  else (escapedJ ps k1 c, escapedK ps k1)

/-- the characters of a text, one behind the other -/
def charsJ (ps : List UInt8) : Nat → List UInt8 → Nat → List UInt8 → List UInt8 × Nat
  | 0, _, k, out => (out, k)
  | f + 1, l, k, out => match u8char l with
    | none => (out, k)
    | some (c, n) => charsJ ps f (l.drop n) (charJ ps k c (l.take n)).2 (out ++ (charJ ps k c (l.take n)).1)
def quotedJ (ps : List UInt8) (k : Nat) (t : List UInt8) : List UInt8 := (charsJ ps t.length t k [34]).1 ++ [34]
def quotedK (ps : List UInt8) (k : Nat) (t : List UInt8) : Nat := (charsJ ps t.length t k [34]).2

theorem u8char_big {l : List UInt8} {c n : Nat} (h : u8char l = some (c, n)) (hc : 65536 ≤ c) : 2 ≤ n := by
  cases l with
  | nil => simp [u8char] at h
  | cons d l =>
    rw [u8char_cons] at h
    split at h
    · simp at h; omega
    · split at h
      · cases h
      · rename_i n' least first hh
        have hn : 1 ≤ n' := by rcases u8head_le hh with h | h | h <;> omega
        split at h
        · cases h
        · split at h
          · simp at h; omega
          · cases h
theorem charJ_le {ps : List UInt8} {k c n : Nat} {l : List UInt8} (h : u8char l = some (c, n)) : (charJ ps k c (l.take n)).1.length ≤ 6 * n ∧ (charJ ps k c (l.take n)).2 ≤ k + 9 := by
  have hn := u8char_size h
  have hb := u8char_big h
  have hk := pickK_le ps k
  have hk1 := escapedK_le ps (pickK ps k)
  have hk2 := escapedK_le ps (escapedK ps (pickK ps k))
  unfold charJ
  simp only
  split
  · exact ⟨by simp; omega, by omega⟩
  · split
    · exact ⟨by simp; omega, by simp; omega⟩
    · split
      · refine ⟨?_, by simp only; omega⟩
        rw [List.length_append, escapedJ_len, escapedJ_len]
        have := hb ‹_›
        omega
      · exact ⟨by rw [escapedJ_len]; omega, by simp only; omega⟩
theorem charsJ_le (ps : List UInt8) : ∀ (f : Nat) (l : List UInt8) (k : Nat) (out : List UInt8), (charsJ ps f l k out).1.length ≤ out.length + 6 * l.length ∧ (charsJ ps f l k out).2 ≤ k + 9 * l.length
  | 0, l, k, out => by unfold charsJ; exact ⟨by simp, by simp⟩
  | f + 1, l, k, out => by
    unfold charsJ
    rcases h : u8char l with _ | ⟨c, n⟩
    · exact ⟨by simp, by simp⟩
    · have hc := charJ_le (ps := ps) (k := k) h
      have hn := u8char_size h
      have ih := charsJ_le ps f (l.drop n) (charJ ps k c (l.take n)).2 (out ++ (charJ ps k c (l.take n)).1)
      simp only [List.length_append, List.length_drop] at ih ⊢
      omega
theorem quotedJ_len (ps : List UInt8) (k : Nat) (t : List UInt8) : (quotedJ ps k t).length ≤ 6 * t.length + 2 := by
  have := (charsJ_le ps t.length t k [34]).1
  unfold quotedJ
  simp at this ⊢
  omega
theorem quotedK_le (ps : List UInt8) (k : Nat) (t : List UInt8) : quotedK ps k t ≤ k + 9 * t.length := (charsJ_le ps t.length t k [34]).2

/-- a number's digits: the first twenty at most -/
def digitsJ (t : List UInt8) : List UInt8 := (t.take 20).map fun c => UInt8.ofNat (48 + c.toNat % 10)
def stripJ : List UInt8 → List UInt8
  | [] => []
  | [c] => [c]
  | c :: d :: l => if c = 48 then stripJ (d :: l) else c :: d :: l
theorem stripJ_len : ∀ l : List UInt8, (stripJ l).length ≤ l.length
  | [] => Nat.le_refl _
  | [_] => Nat.le_refl _
  | c :: d :: l => by
    unfold stripJ; split
    · have := stripJ_len (d :: l); simp at this ⊢; omega
    · exact Nat.le_refl _
def noughtJ (l : List UInt8) : List UInt8 := if l = [] then [48] else l
def signT (n : Nat) : List UInt8 := if n = 1 then [45] else []
def fracT (n : Nat) : List UInt8 := match n with
  | 0 => [46, 48]
  | 1 => [46, 53]
  | 2 => [46, 50, 53, 48]
  | _ => [46, 48, 48, 48, 48, 48, 49]
def eT (n : Nat) : List UInt8 := if n = 1 then [69] else [101]
def sgnT (n : Nat) : List UInt8 := if n = 1 then [43] else if n = 2 then [45] else []
def powT (n : Nat) : List UInt8 := match n with
  | 0 => [48]
  | 1 => [49]
  | 2 => [48, 51]
  | _ => [49, 50]
def fracJ (ps : List UInt8) (k : Nat) : List UInt8 × Nat := if pickV ps k 3 = 1 then (fracT (pickV ps (pickK ps k) 4), pickK ps (pickK ps k)) else ([], pickK ps k)
def expJ (ps : List UInt8) (k : Nat) : List UInt8 × Nat :=
  if pickV ps k 3 = 1 then
    (eT (pickV ps (pickK ps k) 2) ++ sgnT (pickV ps (pickK ps (pickK ps k)) 3) ++ powT (pickV ps (pickK ps (pickK ps (pickK ps k))) 4), pickK ps (pickK ps (pickK ps (pickK ps k))))
  else ([], pickK ps k)
def bodyJ (t : List UInt8) : List UInt8 := noughtJ (stripJ (digitsJ t))
def numberJ (ps : List UInt8) (k : Nat) (t : List UInt8) : List UInt8 :=
  signT (pickV ps k 2) ++ bodyJ t ++ (fracJ ps (pickK ps k)).1 ++ (expJ ps (fracJ ps (pickK ps k)).2).1
def numberK (ps : List UInt8) (k : Nat) : Nat := (expJ ps (fracJ ps (pickK ps k)).2).2
theorem fracJ_le (ps : List UInt8) (k : Nat) : (fracJ ps k).1.length ≤ 7 ∧ (fracJ ps k).2 ≤ k + 2 := by
  have h1 := pickK_le ps k
  have h2 := pickK_le ps (pickK ps k)
  unfold fracJ; split
  · refine ⟨?_, by simp only; omega⟩
    simp only
    unfold fracT; split <;> decide
  · exact ⟨by simp, by simp only; omega⟩
theorem expJ_le (ps : List UInt8) (k : Nat) : (expJ ps k).1.length ≤ 4 ∧ (expJ ps k).2 ≤ k + 4 := by
  have h1 := pickK_le ps k
  have h2 := pickK_le ps (pickK ps k)
  have h3 := pickK_le ps (pickK ps (pickK ps k))
  have h4 := pickK_le ps (pickK ps (pickK ps (pickK ps k)))
  unfold expJ; split
  · refine ⟨?_, by simp only; omega⟩
    simp only [List.length_append]
    have a : ∀ n, (eT n).length ≤ 1 := fun n => by unfold eT; split <;> decide
    have b : ∀ n, (sgnT n).length ≤ 1 := by
      intro n
      unfold sgnT
      split
      · decide
      · split <;> decide
    have c : ∀ n, (powT n).length ≤ 2 := fun n => by unfold powT; split <;> decide
    have := a (pickV ps (pickK ps k) 2)
    have := b (pickV ps (pickK ps (pickK ps k)) 3)
    have := c (pickV ps (pickK ps (pickK ps (pickK ps k))) 4)
    omega
  · exact ⟨by simp, by simp only; omega⟩
theorem bodyJ_len (t : List UInt8) : (bodyJ t).length ≤ 20 := by
  have h1 := stripJ_len (digitsJ t)
  have h2 : (digitsJ t).length ≤ 20 := by unfold digitsJ; simp; omega
  unfold bodyJ noughtJ; split
  · decide
  · omega
theorem numberJ_len (ps : List UInt8) (k : Nat) (t : List UInt8) : (numberJ ps k t).length ≤ 40 := by
  unfold numberJ
  have h1 := bodyJ_len t
  have h2 := (fracJ_le ps (pickK ps k)).1
  have h3 := (expJ_le ps (fracJ ps (pickK ps k)).2).1
  have h4 : ∀ n, (signT n).length ≤ 1 := fun n => by unfold signT; split <;> decide
  have h5 := h4 (pickV ps k 2)
  simp only [List.length_append]
  omega
theorem numberK_le (ps : List UInt8) (k : Nat) : numberK ps k ≤ k + 7 := by
  unfold numberK
  have h1 := pickK_le ps k
  have h2 := (fracJ_le ps (pickK ps k)).2
  have h3 := (expJ_le ps (fracJ ps (pickK ps k)).2).2
  omega

def JI.kind : JI → Nat | .mk k _ _ _ => k
def JI.name : JI → List UInt8 | .mk _ n _ _ => n
def JI.s : JI → List UInt8 | .mk _ _ s _ => s
def JI.kids : JI → List JI | .mk _ _ _ l => l

def nameJ (ps : List UInt8) (nm : List UInt8) (s : JS) : JS := colonJ ps (tokenJ ps 32 nm false (quotedJ ps s.k nm) { s with k := quotedK ps s.k nm })
/-- the parts of a list, from the i-th on -/
def partsJ (ps : List UInt8) (f : JI → JS → JS) : Nat → List JI → JS → JS
  | _, [], s => s
  | i, x :: l, s => partsJ ps f (i + 1) l (f x (commaJ ps i s))
def fieldJ (ps : List UInt8) (f : JI → JS → JS) (x : JI) (s : JS) : JS := f x (nameJ ps x.name s)
/-- a value, at most so deep -/
def valueJ (ps : List UInt8) : Nat → JI → JS → JS
  | 0, _, s => s
  | d + 1, .mk k _ t kids, s =>
    if k % 7 = 0 then tokenJ ps 2 [] false [110, 117, 108, 108] s
    else if k % 7 = 1 then tokenJ ps 4 [] false [102, 97, 108, 115, 101] s
    else if k % 7 = 2 then tokenJ ps 4 [] true [116, 114, 117, 101] s
    else if k % 7 = 3 then tokenJ ps 8 [] false (numberJ ps s.k t) { s with k := numberK ps s.k }
    else if k % 7 = 4 then tokenJ ps 16 t false (quotedJ ps s.k t) { s with k := quotedK ps s.k t }
    else if k % 7 = 5 then tokenJ ps 512 [] false [93] (partsJ ps (valueJ ps d) 0 kids (tokenJ ps 256 [] false [91] s))
    else tokenJ ps 128 [] false [125] (partsJ ps (fieldJ ps (valueJ ps d)) 0 kids (tokenJ ps 64 [] false [123] s))
def writeJ (ps : List UInt8) (x : JI) : JS := spaceJ ps (valueJ ps 20 x ⟨[], 0, []⟩)

/-- what may be appended at most, and that what is there stays -/
structure Grew (n m : Nat) (s t : JS) : Prop where
  b : ∃ x, t.b = s.b ++ x ∧ x.length ≤ n
  k : t.k ≤ s.k + m
  l : ∃ x : List JT, t.l = s.l ++ x ∧ x.length ≤ n ∧ ∀ y ∈ x, s.b.length ≤ y.pos ∧ y.pos ≤ t.b.length
theorem Grew.refl (s : JS) : Grew 0 0 s s := ⟨⟨[], by simp, by simp⟩, by simp, ⟨[], by simp, by simp, by simp⟩⟩
theorem Grew.trans {m n m' n' : Nat} {s t u : JS} (h : Grew m m' s t) (g : Grew n n' t u) : Grew (m + n) (m' + n') s u := by
  obtain ⟨⟨x, hx, hxl⟩, hk, y, hy, hyl, hyp⟩ := h
  obtain ⟨⟨x', hx', hxl'⟩, hk', y', hy', hyl', hyp'⟩ := g
  refine ⟨⟨x ++ x', by rw [hx', hx, List.append_assoc], by simp; omega⟩, by omega, y ++ y', by rw [hy', hy, List.append_assoc], by simp; omega, fun z hz => ?_⟩
  have e1 : t.b.length = s.b.length + x.length := by rw [hx]; simp
  have e2 : u.b.length = t.b.length + x'.length := by rw [hx']; simp
  rcases List.mem_append.1 hz with hz | hz
  · have := hyp z hz; omega
  · have := hyp' z hz; omega
theorem Grew.mono {m n m' n' : Nat} {s t : JS} (h : Grew m m' s t) (hn : m ≤ n) (hn' : m' ≤ n') : Grew n n' s t := by
  obtain ⟨⟨x, hx, hxl⟩, hk, y, hy, hyl, hyp⟩ := h
  exact ⟨⟨x, hx, by omega⟩, by omega, y, hy, by omega, hyp⟩
theorem Grew.blen {n m : Nat} {s t : JS} (h : Grew n m s t) : t.b.length ≤ s.b.length + n := by
  obtain ⟨⟨x, hx, hxl⟩, _⟩ := h
  rw [hx]; simp; omega
theorem Grew.llen {n m : Nat} {s t : JS} (h : Grew n m s t) : t.l.length ≤ s.l.length + n := by
  obtain ⟨_, _, x, hx, hxl, _⟩ := h
  rw [hx]; simp; omega
theorem grew_space (ps : List UInt8) (s : JS) : Grew 4 1 s (spaceJ ps s) := by
  have := pickK_le ps s.k
  exact ⟨⟨_, rfl, spaceT_le _⟩, by show pickK ps s.k ≤ _; omega, [], by simp [spaceJ], by simp, by simp⟩
theorem grew_byte (c : UInt8) (s : JS) : Grew 1 0 s (byteJ c s) := ⟨⟨_, rfl, by simp⟩, by show s.k ≤ _; omega, [], by simp [byteJ], by simp, by simp⟩
theorem grew_put (kind : Nat) (str : List UInt8) (tru : Bool) (text : List UInt8) (s : JS) : Grew (text.length + 1) 0 s (putJ kind str tru text s) :=
  ⟨⟨text, rfl, by omega⟩, by show s.k ≤ _; omega, [_], rfl, by simp, by intro y hy; simp at hy; subst hy; exact ⟨Nat.le_refl _, by simp [putJ]⟩⟩
theorem grew_token (ps : List UInt8) (kind : Nat) (str : List UInt8) (tru : Bool) (text : List UInt8) (s : JS) : Grew (text.length + 5) 1 s (tokenJ ps kind str tru text s) :=
  ((grew_space ps s).trans (grew_put kind str tru text _)).mono (by omega) (by omega)
theorem grew_k (s : JS) (k n : Nat) (h : k ≤ s.k + n) : Grew 0 n s { s with k := k } := ⟨⟨[], by simp, by simp⟩, h, [], by simp, by simp, by simp⟩
theorem grew_comma (ps : List UInt8) (i : Nat) (s : JS) : Grew 5 1 s (commaJ ps i s) := by
  unfold commaJ; split
  · exact (grew_space ps s).trans (grew_byte _ _)
  · exact (Grew.refl s).mono (by omega) (by omega)
theorem grew_colon (ps : List UInt8) (s : JS) : Grew 5 1 s (colonJ ps s) := (grew_space ps s).trans (grew_byte _ _)
theorem grew_name (ps nm : List UInt8) (s : JS) (h : nm.length ≤ 300) : Grew 1812 2702 s (nameJ ps nm s) := by
  have h1 := quotedJ_len ps s.k nm
  have h2 := quotedK_le ps s.k nm
  refine (((grew_k s (quotedK ps s.k nm) 2700 (by omega)).trans (grew_token ps 32 nm false (quotedJ ps s.k nm) _)).trans (grew_colon ps _)).mono ?_ ?_
  · omega
  · omega

theorem wsum_small : ∀ (l : List Nat) (n : Nat), wsum l n ≤ 200 → wsum l n = n + l.sum
  | [], n, _ => by simp [wsum]
  | x :: xs, n, h => by
    unfold wsum at h ⊢
    split at h
    · omega
    · rename_i hx
      rw [if_neg hx, wsum_small xs _ h]
      simp; omega
theorem weightN_parts {d : Nat} {x : JI} (h : weightN (d + 1) x ≤ 200) : x.name.length ≤ 300 ∧ x.s.length ≤ 300 ∧ utf8V x.name = true ∧ utf8V x.s = true ∧ weightN (d + 1) x = 1 + (x.kids.map (weightN d)).sum := by
  obtain ⟨k, nm, s, kids⟩ := x
  unfold weightN at h ⊢
  split at h
  · omega
  · rename_i hb
    rw [if_neg hb, wsum_small _ _ h]
    have hb' : nodeBad nm s = false := by simpa using hb
    simp [nodeBad] at hb'
    exact ⟨hb'.1.1.1, hb'.1.1.2, hb'.1.2, hb'.2, rfl⟩
theorem weightN_pos {d : Nat} {x : JI} (h : weightN d x ≤ 200) : 1 ≤ d ∧ 1 ≤ weightN d x := by
  cases d with
  | zero => simp [weightN] at h
  | succ d => have := (weightN_parts h).2.2.2.2; exact ⟨by omega, by omega⟩
theorem le_sum_mem : ∀ {l : List Nat} {n : Nat}, n ∈ l → n ≤ l.sum
  | x :: l, n, h => by
    rcases List.mem_cons.1 h with rfl | h
    · simp
    · have := le_sum_mem h; simp; omega
theorem weightN_kid {d : Nat} {x y : JI} (h : weightN (d + 1) x ≤ 200) (hy : y ∈ x.kids) : weightN d y ≤ 200 ∧ y.name.length ≤ 300 ∧ utf8V y.name = true := by
  have hp := (weightN_parts h).2.2.2.2
  have hw : weightN d y ≤ (x.kids.map (weightN d)).sum := le_sum_mem (List.mem_map_of_mem hy)
  have h2 : weightN d y ≤ 200 := by omega
  have h0 := weightN_pos h2
  obtain ⟨d', rfl⟩ : ∃ d', d = d' + 1 := ⟨d - 1, by omega⟩
  have := weightN_parts h2
  exact ⟨h2, this.1, this.2.2.1⟩

/-- the bounds for a list of parts -/
def cost (l : List Nat) : Nat := 4000 * l.sum
def costK (l : List Nat) : Nat := 6000 * l.sum
theorem grew_parts (ps : List UInt8) (f : JI → JS → JS) (g : JI → Nat) : ∀ (i : Nat) (l : List JI) (s : JS), (∀ x ∈ l, ∀ s, 1 ≤ g x ∧ Grew (4000 * g x - 200) (6000 * g x - 200) s (f x s)) → Grew (cost (l.map g)) (costK (l.map g)) s (partsJ ps f i l s)
  | i, [], s, _ => Grew.refl s
  | i, x :: l, s, h => by
    have h1 := h x (by simp) (commaJ ps i s)
    have h2 := grew_parts ps f g (i + 1) l (f x (commaJ ps i s)) fun y hy => h y (by simp [hy])
    refine (((grew_comma ps i s).trans h1.2).trans h2).mono ?_ ?_
    · unfold cost; simp; omega
    · unfold costK; simp; omega
theorem grew_value (ps : List UInt8) : ∀ (d : Nat) (x : JI) (s : JS), weightN d x ≤ 200 → Grew (4000 * weightN d x - 2100) (6000 * weightN d x - 3000) s (valueJ ps d x s) := by
  intro d
  induction d with
  | zero => intro x s h; simp [weightN] at h
  | succ d ih =>
    intro x s h
    have hp := weightN_parts h
    have hk := fun y hy => weightN_kid (y := y) h hy
    obtain ⟨k, nm, t, kids⟩ := x
    obtain ⟨h1, h2, h3, h4, h5⟩ := hp
    simp only [JI.name, JI.s, JI.kids] at h1 h2 h3 h4 h5 hk
    rw [h5]
    unfold valueJ
    repeat' split
    · exact (grew_token ps _ _ _ _ s).mono (by simp; omega) (by omega)
    · exact (grew_token ps _ _ _ _ s).mono (by simp; omega) (by omega)
    · exact (grew_token ps _ _ _ _ s).mono (by simp; omega) (by omega)
    · have a := numberJ_len ps s.k t
      have b := numberK_le ps s.k
      exact ((grew_k s (numberK ps s.k) 7 (by omega)).trans (grew_token ps _ _ _ (numberJ ps s.k t) _)).mono (by omega) (by omega)
    · have a := quotedJ_len ps s.k t
      have b := quotedK_le ps s.k t
      exact ((grew_k s (quotedK ps s.k t) 2700 (by omega)).trans (grew_token ps _ _ _ (quotedJ ps s.k t) _)).mono (by omega) (by omega)
    · have a := grew_parts ps (valueJ ps d) (weightN d) 0 kids (tokenJ ps 256 [] false [91] s) fun x hx s =>
        ⟨(weightN_pos (hk x hx).1).2, (ih x s (hk x hx).1).mono (by omega) (by omega)⟩
      refine (((grew_token ps 256 [] false [91] s).trans a).trans (grew_token ps 512 [] false [93] _)).mono ?_ ?_
      · unfold cost; simp only [List.length_cons, List.length_nil]; omega
      · unfold costK; omega
    · have a := grew_parts ps (fieldJ ps (valueJ ps d)) (weightN d) 0 kids (tokenJ ps 64 [] false [123] s) fun x hx s =>
        ⟨(weightN_pos (hk x hx).1).2, ((grew_name ps x.name s (hk x hx).2.1).trans (ih x _ (hk x hx).1)).mono (by have := (weightN_pos (hk x hx).1).2; omega) (by have := (weightN_pos (hk x hx).1).2; omega)⟩
      refine (((grew_token ps 64 [] false [123] s).trans a).trans (grew_token ps 128 [] false [125] _)).mono ?_ ?_
      · unfold cost; simp only [List.length_cons, List.length_nil]; omega
      · unfold costK; omega
theorem token_ne (ps : List UInt8) (kind : Nat) (str : List UInt8) (tru : Bool) (text : List UInt8) (s : JS) : (tokenJ ps kind str tru text s).l ≠ [] := by simp [tokenJ, putJ]
theorem value_ne (ps : List UInt8) (d : Nat) (x : JI) (s : JS) (h : weightN d x ≤ 200) : (valueJ ps d x s).l ≠ [] := by
  obtain ⟨d', rfl⟩ : ∃ d', d = d' + 1 := ⟨d - 1, by have := (weightN_pos h).1; omega⟩
  obtain ⟨k, nm, t, kids⟩ := x
  unfold valueJ
  repeat' split
  all_goals exact token_ne _ _ _ _ _ _
theorem write_le (ps : List UInt8) (x : JI) (h : weightN 20 x ≤ 200) : (writeJ ps x).b.length ≤ 800000 ∧ (writeJ ps x).l ≠ [] ∧ (writeJ ps x).l.length ≤ 800000 ∧ ∀ y ∈ (writeJ ps x).l, y.pos ≤ (writeJ ps x).b.length := by
  have h1 := grew_value ps 20 x ⟨[], 0, []⟩ h
  have h2 := h1.trans (grew_space ps (valueJ ps 20 x ⟨[], 0, []⟩))
  refine ⟨?_, value_ne ps 20 x _ h, ?_, ?_⟩
  · have := h2.blen; simp only [List.length_nil] at this; unfold writeJ; omega
  · have := h2.llen; simp only [List.length_nil] at this; unfold writeJ; omega
  · obtain ⟨_, _, y, hy, _, hp⟩ := h2
    intro z hz
    unfold writeJ at hz ⊢
    rw [hy] at hz
    exact (hp z (by simpa using hz)).2
end Go.Proofs.YtjkmmhnhhiopiaaDoor
