/-
  The reference's writer of JSON, walked: a string with its quotes.
-/
import Derived.Test.YtjkmmhnhhiopiaaJChar
namespace Go.Proofs.Ytjkmmhnhhiopiaa
open Go.ChangeShapes Go.WideShapes Go.ChangeAt Go.RowKit

section
variable {P : Program} {ops : Array Oper} {rest : List Oper} {o : Oper} {a : Act} {Q : Exit → Act → World → Prop}
/-- '[]byte(s)' -/
theorem wpList_bytes_of_string (w : World) (hw : Region.wanted o (yielded ops a.tmps) = true) (x : Operand) (src dst e : TypeId) (ho : o.op = .convert src dst x)
    (hs : P.underlying src = some .string) (hd : P.underlying dst = some (.slice e)) (he : P.underlying e = some (.int .u8))
    (l : List UInt8) (hx : a.eval x = .string ⟨l.toArray⟩) (hm : l.length ≤ 1000000000)
    (h : ∀ v' w', View w' w.heap.size v' l → Below w.heap.size w w' → w.heap.size < w'.heap.size → wpList P ops Q rest (a.put o.dst v') w') : wpList P ops Q (o :: rest) a w := by
  have hsz : (⟨l.toArray⟩ : ByteArray).size = l.length := size_mk l
  have hcm : grownCap w (⟨l.toArray⟩ : ByteArray).size 0 e ≤ maxLen := grownCap_le_maxLen w _ 0 e (by rw [hsz]; unfold maxLen; omega)
  have hcg := grownCap_ge w (⟨l.toArray⟩ : ByteArray).size 0 e
  refine wpList_wanted hw fun K hK => ?_
  have hrun := run_bytes_of_string (P := P) w src dst e ⟨l.toArray⟩ hs hd he
  generalize grownCap w (⟨l.toArray⟩ : ByteArray).size 0 e = cap at *
  unfold Oper.wp
  simp [execOp, ho, hx, hrun, Result.andThen]
  refine hK _ _ (h _ _ ?_ ?_ (by simp))
  · rw [hsz] at hcg ⊢
    refine ⟨_, cap, rfl, hcg, hcm, (fun h => by cases h), 0, fun _ => rfl, fun j hj => ?_⟩
    rw [cell_of_row _ w.heap.size (0 + j) _ e _ (heap_alloc_new w.drew _)]
    unfold bytesRow
    rw [Nat.zero_add, Array.getElem?_append_left (by simpa using hj)]
    simp [hj]
  · exact (Below.refl _ _).drew.alloc (by simp) _
/-- append(b, v...), and where it lies -/
theorem wpList_append_view_at (w : World) (hgd : o.guard = none) (s x : Operand) (t : TypeId)
    (ho : o.op = .call { callee := .builtin .append, args := #[s, x], argTypes := #[t, t] })
    (B : Nat) (e : TypeId) (ht : P.underlying t = some (.slice e)) (hinfo : (P.info? e).map (fun i => (i.zero, i.size, i.bytes)) = some (some (.int .u8 0), 1, 1))
    (v : Value) (bs : List UInt8) (hs : a.eval s = v) (hown : OwnB w B e v bs) (hbase : B ≤ w.heap.size)
    (g : Nat) (u : Value) (ys : List UInt8) (hx : a.eval x = u) (hv : View w g u ys) (hlen : bs.length + ys.length ≤ 140737488355328)
    (h : ∀ v' w', Appd w B e v v' (bs ++ ys) w' → wpList P ops Q rest (a.put o.dst v') w') :
    wpList P ops Q (o :: rest) a w := by
  obtain ⟨i, hi, hz, hz1, hz2⟩ := info_parts hinfo
  obtain ⟨ao, cap, rfl, h3, h4, hn0, off, h5, h6⟩ := hv
  have hml : maxLen = 9223372036854775807 := rfl
  cases ao with
  | none =>
    have hys : ys = [] := by
      cases ys with
      | nil => rfl
      | cons c l => exact absurd (h5 (by simp)) (by simp)
    subst hys
    obtain rfl := hn0 rfl
    refine wpList_append_own_none hgd s x t ho B e i 1 ht hi v bs.length (byteCells bs) hs hown hx (h v w ⟨?_, ⟨rfl, rfl, rfl, Nat.le_refl _, fun _ _ _ => rfl⟩, .inl rfl⟩)
    rw [List.append_nil]; exact hown
  | some ad =>
    refine wpList_append_own_at _ hgd s x t ho B e i (.int .u8 0) 1 1 ht hi hz hz1 hz2 rfl (by decide) v bs.length (byteCells bs) hs hown
      ad ys.length cap (byteCells ys) hx (by simp [byteCells]) ?_ (by intro u hu; simp [byteCells] at hu; obtain ⟨b, _, rfl⟩ := hu; rfl) (by omega) (by omega) hbase ?_
    · intro j u hu
      have hj : j < ys.length := by
        have := (List.getElem?_eq_some_iff.1 hu).1
        simpa [byteCells] using this
      have hne : ys ≠ [] := by intro e; subst e; simp at hj
      have := h5 hne
      injection this with this
      subst this
      rw [Addr.add_lit, h6 j hj]
      simpa [byteCells, List.getElem?_eq_getElem hj] using hu
    · intro v' w' hown' hgrow _ hat
      refine h v' w' ⟨?_, hgrow, hat⟩
      rw [← byteCells_append] at hown'
      unfold OwnB
      simpa using hown'
end

theorem u8char_lt {l : List UInt8} {c n : Nat} (h : u8char l = some (c, n)) : c < 2097152 := by
  cases l with
  | nil => simp [u8char] at h
  | cons d l =>
    rw [u8char_cons] at h
    split at h
    · simp at h; omega
    · split at h
      · cases h
      · split at h
        · cases h
        · split at h
          · rename_i hok
            simp at h
            simp [u8ok] at hok
            omega
          · cases h
theorem charsJ_done (ps : List UInt8) (f k : Nat) (out : List UInt8) : charsJ ps f [] k out = (out, k) := by
  cases f <;> rfl

set_option maxRecDepth 100000 in
set_option maxHeartbeats 1000000 in
theorem quoted_any (B p g : Nat) (ps : List UInt8) (vb vp vl : Value) (s : JS) (w : World) (h : JW B p g ps vb vp vl s w) (hk : s.k ≤ 70000000) (hps : ps.length ≤ 2147483647)
    (t : List UInt8) (ht : t.length ≤ 300) (hu : utf8V t = true) :
    Calls Try.prog 18 #[.pointer (some ⟨p, 0, none⟩), .string ⟨t.toArray⟩] w fun e w' => e = .returned (.string ⟨(quotedJ ps s.k t).toArray⟩) ∧ JW B p g ps vb vp vl { s with k := quotedK ps s.k t } w' ∧ w.grownBy w' (some p) := by
  obtain ⟨r1, r2, r3, r4⟩ := h.rows
  have HH := hid h
  have HQ : Hid (quotedJ ps s.k t = (charsJ ps t.length t s.k [34]).1 ++ [34] ∧ quotedK ps s.k t = (charsJ ps t.length t s.k [34]).2) := hid ⟨rfl, rfl⟩
  have HU := hid hu
  clear h hu
  go_enter Try.func18, Try.ntmps18
  go_wp2_with (first
    | (refine wpList_bytes_of_string _ rfl _ _ _ 5 rfl Try.underlying9 Try.underlying25 Try.underlying5 t rfl (by omega) ?_; intro vB wB hvB hbB hszB; obtain ⟨aoB, capB, rfl⟩ := hvB.slice)
    | fail)
  have hb0 : Below w.heap.size w wB := ((Below.refl w.heap.size w).alloc (Nat.le_refl _) (.cells #[.int .u8 34] 5)).trans (hbB.mono (by simp))
  go_loopw [5, 6] (fun v u wr => ∃ (l acc : List UInt8) (k f : Nat), l.length ≤ f ∧ l.length ≤ t.length ∧ View wr (w.heap.size + 1) u l ∧ OwnB wr w.heap.size 5 v acc ∧ (∀ k, v.ownBlock = some k → k ≠ w.heap.size + 1) ∧ w.heap.size + 1 < wr.heap.size ∧ utf8V l = true ∧
      charsJ ps t.length t s.k [34] = charsJ ps f l k acc ∧ acc.length + 6 * l.length ≤ 1 + 6 * t.length ∧ k + 9 * l.length ≤ s.k + 9 * t.length ∧ JW B p g ps vb vp vl { s with k := k } wr ∧ w.grownBy wr (some p)) (fun _ u _ => match u with | .slice _ n _ => n | _ => 0)
  case atStart =>
    have ho : OwnB wB w.heap.size 5 (.slice (some ⟨w.heap.size, 0, none⟩) 1 1) [34] := World.ownsRow.kept (OwnB.made (Nat.le_refl _) [34] #[.int .u8 34] 5 rfl (by simp [maxLen])) (row := none) ⟨hbB.os, hbB.tape, hbB.output, hbB.size, fun k hk _ => hbB.block k hk⟩ (.inr (by simp [Value.ownBlock]))
    have hn0 : ∀ k, (Value.slice (some ⟨w.heap.size, 0, none⟩) 1 1).ownBlock = some k → k ≠ w.heap.size + 1 := fun k hk => by
      have : w.heap.size = k := by simpa [Value.ownBlock] using hk
      omega
    exact ⟨t, [34], s.k, t.length, Nat.le_refl _, Nat.le_refl _, by simpa using hvB, ho, hn0, by simpa using hszB, HU.out, rfl, by simp <;> omega, by omega, HH.out.below hb0, grownBy_of_below hb0 _⟩
  case round =>
    obtain ⟨l, acc, k, f, hlf, hlt, hv, hown, hno, hsz, hul, hch, hab, hkb, hjw, hgr⟩ := hrel
    obtain ⟨aoA, cA, rfl⟩ := hown.slice
    obtain ⟨aoL, cL, rfl⟩ := hv.slice
    have HCH := hid hch
    clear hch
    cases l with
    | nil =>
      have HF : Hid (quotedJ ps s.k t = acc ++ [34] ∧ quotedK ps s.k t = k) := hid (by rw [HQ.out.1, HQ.out.2, HCH.out, charsJ_done]; exact ⟨rfl, rfl⟩)
      have hoa := hown.alloc (.cells #[.int .u8 34] 5)
      have hsza : w.heap.size ≤ (wr.alloc (.cells #[.int .u8 34] 5)).heap.size := by simp <;> omega
      go_wp2_with (first
        | (refine wpList_append_one _ rfl _ _ _ rfl w.heap.size 5 Try.underlying25 Try.info5 (.slice aoA acc.length cA) acc rfl hoa ⟨wr.heap.size, 0, none⟩ 1 34 rfl (alloc_cell wr #[.int .u8 34] 5 0 rfl) hsza (by omega) ?_; intro v2 w2 ha2)
        | (refine wpList_string_own _ rfl _ _ _ rfl w.heap.size 5 Try.underlying25 Try.underlying5 Try.underlying9 v2 (acc ++ [34]) rfl ha2.own ?_)
        | fail)
      go_ret
      have hvv : ∀ k, (Value.slice aoA acc.length cA).ownBlock = some k → w.heap.size ≤ k := fun k hk => (World.ownsRow.lt hoa k hk).1
      refine ⟨by rw [HF.out.1]; rfl, ?_, grownBy_own (grownBy_trans hgr (World.grownBy_alloc wr _ _)) ha2.grown hvv⟩
      rw [HF.out.2]
      exact (hjw.alloc _).own ha2.grown hvv r1 r2 r3 r4
    | cons c l1 =>
      rcases hu8 : u8char (c :: l1) with _ | ⟨cc, n⟩
      · have := utf8V_none (l := c :: l1) (by simp) hu8
        rw [this] at hul
        cases hul
      · have hn := u8char_size hu8
        have hul2 := (utf8V_some hu8).symm.trans hul
        have hsz2 : size2 (c :: l1) = n := by rw [← size2_eq]; unfold u8size; rw [hu8]
        have hcl := charJ_le (ps := ps) (k := k) hu8
        have hcb : cc < 2097152 := u8char_lt hu8
        obtain ⟨f', rfl⟩ : ∃ f', f = f' + 1 := ⟨f - 1, by simp at hlf; omega⟩
        have HST : Hid (charsJ ps t.length t s.k [34] = charsJ ps f' ((c :: l1).drop n) (charJ ps k cc ((c :: l1).take n)).2 (acc ++ (charJ ps k cc ((c :: l1).take n)).1)) := hid (by rw [HCH.out, charsJ, hu8])
        have hrv := runeV_of hu8
        have HS : Hid (Calls Try.prog 24 #[.slice aoL (c :: l1).length cL] wr fun e w' => e = .returned (.int .i64 (n : Int)) ∧ Below wr.heap.size wr w') := hid (hsz2 ▸ utf8Size_any _ c l1 _ wr hv (by omega))
        have htl : ((c :: l1).take n).length = n := by rw [List.length_take]; omega
        have HC : Hid (∀ v w1, View w1 (w.heap.size + 1) v ((c :: l1).take n) → JW B p g ps vb vp vl { s with k := k } w1 → Calls Try.prog 25 #[.pointer (some ⟨p, 0, none⟩), v] w1 (Viewed B p g ps vb vp vl { s with k := (charJ ps k cc ((c :: l1).take n)).2 } (charJ ps k cc ((c :: l1).take n)).1 w1)) :=
          hid fun v w1 hv h => character_any B p g ps vb vp vl { s with k := k } w1 h (by simp only; omega) hps ((c :: l1).take n) cc v _ hv (by omega) (by omega) (by omega) hrv hcb
        unfold Viewed at HC
        have htk : ((c :: l1).drop n).length = (c :: l1).length - n := List.length_drop
        generalize hL : c :: l1 = L at *
        clear hL hu8 hul hsz2 hrv HCH hcb
        generalize charJ ps k cc (L.take n) = out at *
        obtain ⟨ob, ok⟩ := out
        simp only at hcl HST HC
        go_wp2_with (first
          | (go_at_call 24; refine (Calls.mono HS.out ?_); rintro e w1 ⟨rfl, hb1⟩; have hv1 := hv.below hb1; have hj1 := hjw.below hb1; have ho1 := World.ownsRow.kept hown (row := none) ⟨hb1.os, hb1.tape, hb1.output, hb1.size, fun k hk _ => hb1.block k hk⟩ (by cases (Value.slice aoA acc.length cA).ownBlock <;> simp))
          | (refine wpList_slice_to _ rfl _ _ 25 5 rfl Try.underlying25 Try.info5 _ _ _ rfl hv1 _ (n : Int) rfl (by omega) (by omega) ?_; intro vs1 hvs1; rw [Int.toNat_natCast] at hvs1)
          | (go_at_call 25; refine (Calls.mono (HC.out _ _ hvs1 hj1) ?_); rintro e w2 ⟨v2, g2, rfl, hv2, hj2, hg2⟩; have hvL2 := hv1.grown hg2 (by omega); have ho2 := World.ownsRow.kept ho1 hg2 (.inr (fun e => by have := (World.ownsRow.lt ho1 _ e).1; omega)); have hsz2 : w.heap.size ≤ w2.heap.size := (by have := hb1.size; have := hg2.size; omega))
          | (refine wpList_append_view_at _ rfl _ _ _ rfl w.heap.size 5 Try.underlying25 Try.info5 (.slice aoA acc.length cA) acc rfl ho2 hsz2 g2 v2 ob rfl hv2 (by omega) ?_; intro v3 w3 ha3; have hv3 : View w3 (w.heap.size + 1) (.slice aoL L.length cL) L := hvL2.kept (ha3.grown.block _ (by have := hb1.size; have := hg2.size; omega) (fun e => hno _ e.symm rfl)))
          | (refine wpList_slice_from _ rfl _ _ 25 5 rfl Try.underlying25 Try.info5 _ _ _ rfl hv3 _ (n : Int) rfl (by omega) (by omega) ?_; intro vs4 hvs4; rw [Int.toNat_natCast] at hvs4; obtain ⟨ao4, c4, rfl⟩ := hvs4.slice)
          | fail)
        go_roundw
        case rel =>
          have hvv : ∀ k, (Value.slice aoA acc.length cA).ownBlock = some k → w.heap.size ≤ k := fun k hk => (World.ownsRow.lt ho2 k hk).1
          refine ⟨L.drop n, acc ++ ob, ok, f', by omega, by omega, by first | exact hvs4 | (rw [← htk]; exact hvs4), ha3.own, fun k hk => ?_, ?_, hul2, HST.out, by simp; omega, by omega, (hj2.own ha3.grown hvv r1 r2 r3 r4), grownBy_own (grownBy_trans (grownBy_trans hgr (grownBy_of_below hb1 _)) hg2) ha3.grown hvv⟩
          · rcases ha3.lies with e | e
            · exact hno k (by rw [← e]; exact hk)
            · rw [e] at hk; injection hk with hk
              have := hb1.size; have := hg2.size; omega
          · have := hb1.size; have := hg2.size; have := ha3.grown.size; omega
        case measure => simp; omega
end Go.Proofs.Ytjkmmhnhhiopiaa
