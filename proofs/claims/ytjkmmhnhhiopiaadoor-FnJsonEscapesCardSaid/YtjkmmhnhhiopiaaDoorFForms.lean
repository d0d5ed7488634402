/-
  The package's reader over what the reference's writer of JSON writes: its tokens, each at its place, up to the end. Plain functions.
-/
import Derived.Test.YtjkmmhnhhiopiaaDoorFRead
namespace Go.Proofs.YtjkmmhnhhiopiaaDoor

variable {bs : List UInt8} {ps : List UInt8}
/-! ### what the writer appends -/
def Appends (f : JS → JS) : Prop := ∀ s, ∃ X Y, (f s).b = s.b ++ X ∧ (f s).l = s.l ++ Y
theorem appends_space (s : JS) : ∃ X Y, (spaceJ ps s).b = s.b ++ X ∧ (spaceJ ps s).l = s.l ++ Y := ⟨_, [], rfl, by simp [spaceJ]⟩
theorem appends_comma (i : Nat) (s : JS) : ∃ X Y, (commaJ ps i s).b = s.b ++ X ∧ (commaJ ps i s).l = s.l ++ Y := by
  unfold commaJ; split
  · exact ⟨spaceT (pickV ps s.k 8) ++ [44], [], by simp [byteJ, spaceJ], by simp [byteJ, spaceJ]⟩
  · exact ⟨[], [], by simp, by simp⟩
theorem appends_token (kd : Nat) (str : List UInt8) (tru : Bool) (text : List UInt8) (s : JS) : ∃ X Y, (tokenJ ps kd str tru text s).b = s.b ++ X ∧ (tokenJ ps kd str tru text s).l = s.l ++ Y :=
  ⟨spaceT (pickV ps s.k 8) ++ text, _, by simp [tokenJ, putJ, spaceJ], rfl⟩
theorem appends_name (nm : List UInt8) (s : JS) : ∃ X Y, (nameJ ps nm s).b = s.b ++ X ∧ (nameJ ps nm s).l = s.l ++ Y := by
  unfold nameJ colonJ byteJ
  exact ⟨spaceT (pickV ps (quotedK ps s.k nm) 8) ++ quotedJ ps s.k nm ++ spaceT (pickV ps (tokenJ ps 32 nm false (quotedJ ps s.k nm) { s with k := quotedK ps s.k nm }).k 8) ++ [58], _, by simp [tokenJ, putJ, spaceJ], rfl⟩
theorem app_comp {s t u : JS} (h : ∃ X Y, t.b = s.b ++ X ∧ t.l = s.l ++ Y) (g : ∃ X Y, u.b = t.b ++ X ∧ u.l = t.l ++ Y) : ∃ X Y, u.b = s.b ++ X ∧ u.l = s.l ++ Y := by
  obtain ⟨X, Y, h1, h2⟩ := h
  obtain ⟨X', Y', g1, g2⟩ := g
  exact ⟨X ++ X', Y ++ Y', by rw [g1, h1, List.append_assoc], by rw [g2, h2, List.append_assoc]⟩
theorem appends_parts (f : JI → JS → JS) (hf : ∀ x, Appends (f x)) : ∀ (i : Nat) (l : List JI), Appends (partsJ ps f i l)
  | i, [], s => ⟨[], [], by simp [partsJ], by simp [partsJ]⟩
  | i, x :: l, s => app_comp (app_comp (appends_comma (ps := ps) i s) (hf x _)) (appends_parts f hf (i + 1) l _)
theorem appends_value : ∀ (d : Nat) (x : JI), Appends (valueJ ps d x)
  | 0, x, s => ⟨[], [], by simp [valueJ], by simp [valueJ]⟩
  | d + 1, .mk k nm t kids, s => by
    have ih := appends_value d
    unfold valueJ
    split
    · exact appends_token _ _ _ _ s
    · split
      · exact appends_token _ _ _ _ s
      · split
        · exact appends_token _ _ _ _ s
        · split
          · exact appends_token _ _ _ _ { s with k := numberK ps s.k }
          · split
            · exact appends_token _ _ _ _ { s with k := quotedK ps s.k t }
            · split
              · exact app_comp (app_comp (appends_token _ _ _ _ s) (appends_parts _ ih 0 kids _)) (appends_token _ _ _ _ _)
              · exact app_comp (app_comp (appends_token _ _ _ _ s) (appends_parts _ (fun x s => app_comp (appends_name x.name s) (ih x _)) 0 kids _)) (appends_token _ _ _ _ _)

/-! ### read back -/
/-- from here to there the reader reads just what was written -/
def ReadsJ (bs : List UInt8) (st : List Nat) (last : Nat) (E : Nat → Prop) (s t : JS) : Prop :=
  ∀ a, At bs s.b.length st last a → ∃ a' Y last', Chain bs a (Y.map toTK) a' ∧ t.l = s.l ++ Y ∧ At bs t.b.length st last' a' ∧ E last'
theorem toTK_at (kd : Nat) (str : List UInt8) (tru : Bool) (text : List UInt8) (s : JS) (q : Nat) : toTK ⟨kd, (s.b ++ spaceT q).length, text, str, tru⟩ = ⟨kd, s.b.length + (spaceT q).length, text, tru, str⟩ := by simp [toTK]
theorem Chain.one {a a' : DS} {t : TK} (h : readC bs a = (a', true)) (ht : a'.tok = t) (h1 : t.kind ≠ 1024) (h2 : t.kind ≠ 1) : Chain bs a [t] a' := by
  subst ht
  exact .tok h h1 h2 (.nil _)
theorem tok_b (kd : Nat) (str : List UInt8) (tru : Bool) (text r : List UInt8) (s : JS) : (tokenJ ps kd str tru text s).b ++ r = s.b ++ (spaceT (pickV ps s.k 8) ++ (text ++ r)) := by simp [tokenJ, putJ, spaceJ]
theorem reads_leaf {kd last : Nat} {str : List UInt8} {tru : Bool} {text r : List UInt8} {s : JS} {st : List Nat} (hx : Lexed kd str tru text) (hr : Delim r) (hb : bs = (tokenJ ps kd str tru text s).b ++ r) (hv : valN st last = true) (hk : kd = 2 ∨ kd = 4 ∨ kd = 8 ∨ kd = 16) :
    ReadsJ bs st last ValEnd s (tokenJ ps kd str tru text s) := by
  intro a ha
  obtain ⟨a', h1, h2, h3⟩ := read_leaf ha hx (.inr hr) (hb.trans (tok_b ..)) hv hk
  refine ⟨a', [⟨kd, (s.b ++ spaceT (pickV ps s.k 8)).length, text, str, tru⟩], kd, ?_, rfl, h3, by unfold ValEnd; omega⟩
  rw [List.map_cons, List.map_nil, toTK_at]
  exact Chain.one h1 h2 (by show kd ≠ 1024; omega) (by show kd ≠ 1; omega)
theorem reads_name {last : Nat} {r : List UInt8} {nm : List UInt8} {s : JS} {st : List Nat} (hv : utf8V nm = true) (hb : bs = (nameJ ps nm s).b ++ r) (hl : last = 64 ∨ last = 1024) : ReadsJ bs (st ++ [64]) last (· = 32) s (nameJ ps nm s) := by
  intro a ha
  have hx := lexed_quoted ps s.k nm hv
  obtain ⟨q, q2, e1, e2⟩ : ∃ q q2, (nameJ ps nm s).b = s.b ++ spaceT q ++ quotedJ ps s.k nm ++ spaceT q2 ++ [58] ∧ (nameJ ps nm s).l = s.l ++ [⟨32, (s.b ++ spaceT q).length, quotedJ ps s.k nm, nm, false⟩] := ⟨_, _, rfl, rfl⟩
  obtain ⟨a', h1, h2, h3⟩ := read_nameT (q := q) (q2 := q2) (r := r) ha hx (hb.trans (by rw [e1]; simp only [List.append_assoc])) hl
  refine ⟨a', _, 32, ?_, e2, by rw [e1]; exact h3, rfl⟩
  rw [List.map_cons, List.map_nil, toTK_at]
  exact Chain.one h1 h2 (by simp) (by simp)
theorem comma_b (i : Nat) (s : JS) (h : 0 < i) : (commaJ ps i s).b = s.b ++ spaceT (pickV ps s.k 8) ++ [44] ∧ (commaJ ps i s).l = s.l := by unfold commaJ; rw [if_pos h]; exact ⟨rfl, rfl⟩
/-- parts: what holds of one holds of all -/
theorem reads_parts (f : JI → JS → JS) (hf : ∀ x, Appends (f x)) (open_ : Nat) (st : List Nat) (first : Nat → Prop) (h0 : first open_) (h1 : first 1024) : ∀ (l : List JI) (i : Nat) (s : JS) (last : Nat) (r : List UInt8),
    (∀ x ∈ l, ∀ (s : JS) (last : Nat) (r : List UInt8), first last → Delim r → bs = (f x s).b ++ r → ReadsJ bs (st ++ [open_]) last ValEnd s (f x s)) →
    (i = 0 ∧ last = open_ ∨ 0 < i ∧ ValEnd last) → Delim r → bs = (partsJ ps f i l s).b ++ r → ReadsJ bs (st ++ [open_]) last (fun n => n = open_ ∨ ValEnd n) s (partsJ ps f i l s)
  | [], i, s, last, r, _, hi, _, _ => fun a ha => ⟨a, [], last, .nil a, by simp [partsJ], ha, by rcases hi with h | h; exact .inl h.2; exact .inr h.2⟩
  | x :: l, i, s, last, r, hx, hi, hr, hb => by
    intro a ha
    obtain ⟨X, Y0, hX, _⟩ := appends_parts (ps := ps) f hf (i + 1) l (f x (commaJ ps i s))
    -- what stands behind the part ends it
    have hd : Delim (X ++ r) := by
      cases l with
      | nil =>
        have : X = [] := by unfold partsJ at hX; exact List.append_right_eq_self.1 hX.symm
        rw [this]; exact hr
      | cons y l =>
        obtain ⟨Z, _, hZ, _⟩ := app_comp (hf y (commaJ ps (i + 1) (f x (commaJ ps i s)))) (appends_parts (ps := ps) f hf (i + 2) l _)
        have e : X = spaceT (pickV ps (f x (commaJ ps i s)).k 8) ++ 44 :: Z := by
          have e1 : (partsJ ps f (i + 1) (y :: l) (f x (commaJ ps i s))).b = (partsJ ps f (i + 2) l (f y (commaJ ps (i + 1) (f x (commaJ ps i s))))).b := rfl
          rw [e1, hZ, (comma_b (i + 1) _ (Nat.succ_pos i)).1] at hX
          simp only [List.append_assoc, List.append_cancel_left_eq] at hX
          rw [← hX]; rfl
        rw [e, List.append_assoc]
        exact delim_space (by decide)
    have hb1 : bs = (f x (commaJ ps i s)).b ++ (X ++ r) := by
      rw [hb]
      show (partsJ ps f (i + 1) l (f x (commaJ ps i s))).b ++ r = _
      rw [hX, List.append_assoc]
    -- the comma
    obtain ⟨a1, last1, c1, A1, F1, L1⟩ : ∃ a1 last1, Chain bs a [] a1 ∧ At bs (commaJ ps i s).b.length (st ++ [open_]) last1 a1 ∧ first last1 ∧ (commaJ ps i s).l = s.l := by
      rcases hi with ⟨rfl, rfl⟩ | ⟨hi, hv⟩
      · exact ⟨a, _, .nil a, ha, h0, rfl⟩
      · obtain ⟨e1, e2⟩ := comma_b (ps := ps) i s hi
        obtain ⟨W, _, hW, _⟩ := hf x (commaJ ps i s)
        obtain ⟨a1, g1, g2, g3⟩ := read_commaT (q := pickV ps s.k 8) (pre := s.b) (r := W ++ (X ++ r)) ha (by rw [hb1, hW, e1]; simp only [List.append_assoc]) (by simp) hv
        exact ⟨a1, 1024, .comma g1 g2 (.nil _), by rw [e1]; exact g3, h1, e2⟩
    obtain ⟨a2, Y2, last2, c2, L2, A2, V2⟩ := hx x (by simp) (commaJ ps i s) last1 (X ++ r) F1 hd hb1 a1 A1
    obtain ⟨a3, Y3, last3, c3, L3, A3, V3⟩ := reads_parts f hf open_ st first h0 h1 l (i + 1) (f x (commaJ ps i s)) last2 r (fun y hy => hx y (by simp [hy])) (.inr ⟨Nat.succ_pos i, V2⟩) hr hb a2 A2
    refine ⟨a3, Y2 ++ Y3, last3, ?_, ?_, A3, V3⟩
    · rw [List.map_append]
      exact (c1.trans c2).trans c3
    · show (partsJ ps f (i + 1) l (f x (commaJ ps i s))).l = _
      rw [L3, L2, L1, List.append_assoc]
/-- a value -/
theorem reads_value : ∀ (d : Nat) (x : JI) (s : JS) (st : List Nat) (last : Nat) (r : List UInt8), weightN d x ≤ 200 → valN st last = true → Delim r → bs = (valueJ ps d x s).b ++ r → ReadsJ bs st last ValEnd s (valueJ ps d x s) := by
  intro d
  induction d with
  | zero => intro x s st last r h; simp [weightN] at h
  | succ d ih =>
    intro x s st last r h hv hr hb
    have hp := weightN_parts h
    have hk := fun y hy => weightN_kid (y := y) h hy
    obtain ⟨k, nm, t, kids⟩ := x
    obtain ⟨_, _, _, hu, _⟩ := hp
    simp only [JI.s, JI.kids] at hu hk
    unfold valueJ at hb ⊢
    by_cases h0 : k % 7 = 0
    · rw [if_pos h0] at hb ⊢; exact reads_leaf lexed_null hr hb hv (by decide)
    · rw [if_neg h0] at hb ⊢
      by_cases h1 : k % 7 = 1
      · rw [if_pos h1] at hb ⊢; exact reads_leaf lexed_false hr hb hv (by decide)
      · rw [if_neg h1] at hb ⊢
        by_cases h2 : k % 7 = 2
        · rw [if_pos h2] at hb ⊢; exact reads_leaf lexed_true hr hb hv (by decide)
        · rw [if_neg h2] at hb ⊢
          by_cases h3 : k % 7 = 3
          · rw [if_pos h3] at hb ⊢; exact reads_leaf (s := { s with k := numberK ps s.k }) (lexed_number ps s.k t) hr hb hv (by decide)
          · rw [if_neg h3] at hb ⊢
            by_cases h4 : k % 7 = 4
            · rw [if_pos h4] at hb ⊢; exact reads_leaf (s := { s with k := quotedK ps s.k t }) (lexed_quoted ps s.k t hu) hr hb hv (by decide)
            · rw [if_neg h4] at hb ⊢
              by_cases h5 : k % 7 = 5
              · rw [if_pos h5] at hb ⊢
                intro a ha
                generalize hs1 : tokenJ ps 256 [] false [91] s = s1 at hb ⊢
                generalize hs2 : partsJ ps (valueJ ps d) 0 kids s1 = s2 at hb ⊢
                obtain ⟨X, _, hX, _⟩ := appends_parts (ps := ps) (valueJ ps d) (appends_value d) 0 kids s1
                rw [hs2] at hX
                have e3 := tok_b (ps := ps) 512 [] false [93] r s2
                have hb2 : bs = s2.b ++ (spaceT (pickV ps s2.k 8) ++ ([93] ++ r)) := hb.trans e3
                have hb1 : bs = s.b ++ (spaceT (pickV ps s.k 8) ++ ([91] ++ (X ++ (spaceT (pickV ps s2.k 8) ++ ([93] ++ r))))) := by
                  rw [hb2, hX, ← hs1, List.append_assoc, tok_b]
                obtain ⟨a1, g1, g2, g3⟩ := read_openT ha lexed_list hb1 hv (.inr rfl)
                have A1 : At bs s1.b.length (st ++ [256]) 256 a1 := by rw [← hs1]; exact g3
                obtain ⟨a2, Y2, last2, c2, L2, A2, V2⟩ := reads_parts (ps := ps) (bs := bs) (valueJ ps d) (appends_value d) 256 st (fun n => n = 256 ∨ n = 1024) (.inl rfl) (.inr rfl) kids 0 s1 256 (spaceT (pickV ps s2.k 8) ++ ([93] ++ r))
                  (fun x hx s last r hl hr hb => ih x s (st ++ [256]) last r (hk x hx).1 (by unfold valN; simp; omega) hr hb) (.inl ⟨rfl, rfl⟩) (delim_space (by decide)) (by rw [hs2]; exact hb2) a1 A1
                rw [hs2] at L2 A2
                obtain ⟨a3, f1, f2, f3⟩ := read_closeL A2 lexed_listEnd hb2 (by unfold ValEnd at V2; omega)
                refine ⟨a3, ⟨256, (s.b ++ spaceT (pickV ps s.k 8)).length, [91], [], false⟩ :: (Y2 ++ [⟨512, (s2.b ++ spaceT (pickV ps s2.k 8)).length, [93], [], false⟩]), 512, ?_, ?_, f3, by unfold ValEnd; omega⟩
                · rw [List.map_cons, List.map_append, List.map_cons, List.map_nil, toTK_at, toTK_at]
                  exact (Chain.one g1 g2 (by simp) (by simp)).trans (c2.trans (Chain.one f1 f2 (by simp) (by simp)))
                · show s2.l ++ [_] = _
                  rw [L2, ← hs1]
                  show (s.l ++ [_]) ++ Y2 ++ [_] = _
                  simp only [List.append_assoc, List.cons_append, List.nil_append]
                  rfl
              · rw [if_neg h5] at hb ⊢
                intro a ha
                have hf : ∀ x, Appends (fieldJ ps (valueJ ps d) x) := fun x s => app_comp (appends_name x.name s) (appends_value d x _)
                generalize hs1 : tokenJ ps 64 [] false [123] s = s1 at hb ⊢
                generalize hs2 : partsJ ps (fieldJ ps (valueJ ps d)) 0 kids s1 = s2 at hb ⊢
                obtain ⟨X, _, hX, _⟩ := appends_parts (ps := ps) (fieldJ ps (valueJ ps d)) hf 0 kids s1
                rw [hs2] at hX
                have e3 := tok_b (ps := ps) 128 [] false [125] r s2
                have hb2 : bs = s2.b ++ (spaceT (pickV ps s2.k 8) ++ ([125] ++ r)) := hb.trans e3
                have hb1 : bs = s.b ++ (spaceT (pickV ps s.k 8) ++ ([123] ++ (X ++ (spaceT (pickV ps s2.k 8) ++ ([125] ++ r))))) := by
                  rw [hb2, hX, ← hs1, List.append_assoc, tok_b]
                obtain ⟨a1, g1, g2, g3⟩ := read_openT ha lexed_open hb1 hv (.inl rfl)
                have A1 : At bs s1.b.length (st ++ [64]) 64 a1 := by rw [← hs1]; exact g3
                obtain ⟨a2, Y2, last2, c2, L2, A2, V2⟩ := reads_parts (ps := ps) (bs := bs) (fieldJ ps (valueJ ps d)) hf 64 st (fun n => n = 64 ∨ n = 1024) (.inl rfl) (.inr rfl) kids 0 s1 64 (spaceT (pickV ps s2.k 8) ++ ([125] ++ r))
                  (fun x hx s last r hl hr hb => by
                    intro a ha
                    have hw := hk x hx
                    obtain ⟨Z, _, hZ, _⟩ := appends_value (ps := ps) d x (nameJ ps x.name s)
                    obtain ⟨b1, Y1, last1, c1, M1, B1, rfl⟩ := reads_name (ps := ps) (bs := bs) (r := Z ++ r) (st := st) hw.2.2 (by rw [hb]; unfold fieldJ; rw [hZ, List.append_assoc]) hl a ha
                    obtain ⟨b2, Y2, last2, c2, M2, B2, V2⟩ := ih x (nameJ ps x.name s) (st ++ [64]) 32 r hw.1 (by unfold valN; simp) hr hb b1 B1
                    exact ⟨b2, Y1 ++ Y2, last2, by rw [List.map_append]; exact c1.trans c2, by unfold fieldJ; rw [M2, M1, List.append_assoc], B2, V2⟩) (.inl ⟨rfl, rfl⟩) (delim_space (by decide)) (by rw [hs2]; exact hb2) a1 A1
                rw [hs2] at L2 A2
                obtain ⟨a3, f1, f2, f3⟩ := read_closeO A2 lexed_close hb2 (by unfold ValEnd at V2; omega)
                refine ⟨a3, ⟨64, (s.b ++ spaceT (pickV ps s.k 8)).length, [123], [], false⟩ :: (Y2 ++ [⟨128, (s2.b ++ spaceT (pickV ps s2.k 8)).length, [125], [], false⟩]), 128, ?_, ?_, f3, by unfold ValEnd; omega⟩
                · rw [List.map_cons, List.map_append, List.map_cons, List.map_nil, toTK_at, toTK_at]
                  exact (Chain.one g1 g2 (by simp) (by simp)).trans (c2.trans (Chain.one f1 f2 (by simp) (by simp)))
                · show s2.l ++ [_] = _
                  rw [L2, ← hs1]
                  show (s.l ++ [_]) ++ Y2 ++ [_] = _
                  simp only [List.append_assoc, List.cons_append, List.nil_append]
                  rfl

theorem at_new : At bs 0 [] 0 DS.new := ⟨rfl, rfl, rfl, rfl, Nat.zero_le _, rfl⟩
/-- the end -/
theorem read_eof {a : DS} {n last : Nat} (h : At bs n [] last a) (hn : goN bs n 0 = bs.length) : readC bs a = (⟨false, ⟨1, bs.length, [], false, []⟩, false, [], goN bs bs.length 0⟩, true) := by
  have e := h.pos.trans hn
  unfold readC
  simp only
  rw [e, List.drop_length]
  unfold nextJ
  simp only
  rw [h.st, h.bad, if_pos trivial, if_pos rfl]
  rfl
theorem run_all {a : DS} {l : List TK} {n last : Nat} (hc : Chain bs DS.new l a) (h : At bs n [] last a) (hl : last ≠ 1024) (hn : goN bs n 0 = bs.length) : allJ bs [] = (l, true) := by
  have hf := hc.facts (Nat.zero_le _)
  have hle : l.length ≤ bs.length := by have := hf.2.1; have := hf.2.2.1; omega
  unfold allJ
  have hr := (hc.run (by rw [h.last]; exact hl) rfl (Nat.zero_le _) (bs.length - l.length + 1) []).1 (by simp [DS.new, TK.zero])
  rw [show bs.length - l.length + 1 + l.length = bs.length + 1 by omega] at hr
  rw [hr, runJ_step, readJ_plain h.peeked]
  unfold readF
  rw [read_eof h hn]
  simp
/-- THE WRITER's TOKENS ARE READ -/
theorem write_reads (x : JI) (hw : weightN 20 x ≤ 200) : allJ (writeJ ps x).b [] = ((writeJ ps x).l.map toTK, true) := by
  generalize hq : pickV ps (valueJ ps 20 x ⟨[], 0, []⟩).k 8 = q
  have hb : (writeJ ps x).b = (valueJ ps 20 x ⟨[], 0, []⟩).b ++ spaceT q := by rw [← hq]; rfl
  obtain ⟨a, Y, last, hc, hl, hA, hE⟩ := reads_value (ps := ps) (bs := (writeJ ps x).b) 20 x ⟨[], 0, []⟩ [] 0 (spaceT q) hw rfl (delim_spaces q) hb DS.new at_new
  have e : (writeJ ps x).l = Y := by show (valueJ ps 20 x ⟨[], 0, []⟩).l = Y; rw [hl]; rfl
  rw [e]
  refine run_all hc hA (by unfold ValEnd at hE; omega) ?_
  rw [goN_zero, hb, List.drop_left]
  have := wsN_space q []
  rw [List.append_nil] at this
  rw [this, List.length_append]
  rfl
end Go.Proofs.YtjkmmhnhhiopiaaDoor
