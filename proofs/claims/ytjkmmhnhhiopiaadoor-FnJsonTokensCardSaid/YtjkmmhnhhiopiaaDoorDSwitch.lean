/-
  The package's reader of JSON: what Read does of a token, as a plain function; the fields that it writes.
-/
import Derived.Test.YtjkmmhnhhiopiaaDoorDRun
import Derived.Test.YtjkmmhnhhiopiaaDoorDReadA
namespace Go.Proofs.YtjkmmhnhhiopiaaDoor
open Go.ChangeShapes Go.WideShapes Go.ChangeAt Go.RowKit

/-- what is open, the token's kind, and where it stands then; none: an error -/
def swJ (bs : List UInt8) (s : DS) (kd k2 : Nat) : Option (List Nat × Nat × Nat) :=
  if kd = 1 then (if s.st = [] then some (s.st, kd, k2) else none)
  else if kd = 2 ∨ kd = 4 ∨ kd = 8 then (if valN s.st s.tok.kind then some (s.st, kd, k2) else none)
  else if kd = 16 then (if valN s.st s.tok.kind then some (s.st, kd, k2) else if s.tok.kind = 64 ∨ s.tok.kind = 1024 then (match bs.drop k2 with
      | c :: _ => if c.toNat = 58 then some (s.st, 32, goN bs k2 1) else none
      | [] => none) else none)
  else if kd = 64 ∨ kd = 256 then (if valN s.st s.tok.kind then some (s.st ++ [kd], kd, k2) else none)
  else if kd = 128 then (if s.st.getLast? = some 64 ∧ s.tok.kind ≠ 32 ∧ s.tok.kind ≠ 1024 then some (s.st.dropLast, kd, k2) else none)
  else if kd = 512 then (if s.st.getLast? = some 256 ∧ s.tok.kind ≠ 1024 then some (s.st.dropLast, kd, k2) else none)
  else (if s.st ≠ [] ∧ (s.tok.kind = 2 ∨ s.tok.kind = 4 ∨ s.tok.kind = 8 ∨ s.tok.kind = 16 ∨ s.tok.kind = 128 ∨ s.tok.kind = 512) then some (s.st, kd, k2) else none)
theorem readC_none {bs : List UInt8} {s : DS} (h : nextJ (bs.drop (goN bs s.k 0)) = none) : readC bs s = ({ s with peeked := false, k := goN bs s.k 0 }, false) := by
  unfold readC
  simp only
  rw [h]
theorem readC_some {bs : List UInt8} {s : DS} {kd n : Nat} {b : Bool} {t : List UInt8} (h : nextJ (bs.drop (goN bs s.k 0)) = some (kd, n, b, t)) :
    readC bs s = match swJ bs s kd (goN bs (goN bs s.k 0) n) with
    | none => ({ s with peeked := false, k := goN bs (goN bs s.k 0) n }, false)
    | some (st, kd', k') => (⟨false, ⟨kd', goN bs s.k 0, (bs.drop (goN bs s.k 0)).take n, b, t⟩, s.bad, st, k'⟩, true) := by
  unfold readC swJ
  simp only
  rw [h]
  simp only
  by_cases h1 : kd = 1
  · simp only [if_pos h1]
    by_cases h2 : s.st = []
    · simp only [if_pos h2]
    · simp only [if_neg h2]
  · simp only [if_neg h1]
    by_cases h3 : kd = 2 ∨ kd = 4 ∨ kd = 8
    · simp only [if_pos h3]
      by_cases h2 : valN s.st s.tok.kind = true
      · simp only [if_pos h2]
      · simp only [if_neg h2]
    · simp only [if_neg h3]
      by_cases h4 : kd = 16
      · simp only [if_pos h4]
        by_cases h2 : valN s.st s.tok.kind = true
        · simp only [if_pos h2]
        · simp only [if_neg h2]
          by_cases h5 : s.tok.kind = 64 ∨ s.tok.kind = 1024
          · simp only [if_pos h5]
            rcases bs.drop (goN bs (goN bs s.k 0) n) with _ | ⟨c, l⟩
            · rfl
            · simp only
              by_cases h6 : c.toNat = 58
              · simp only [if_pos h6]
              · simp only [if_neg h6]
          · simp only [if_neg h5]
      · simp only [if_neg h4]
        by_cases h5 : kd = 64 ∨ kd = 256
        · simp only [if_pos h5]
          by_cases h2 : valN s.st s.tok.kind = true
          · simp only [if_pos h2]
          · simp only [if_neg h2]
        · simp only [if_neg h5]
          by_cases h6 : kd = 128
          · simp only [if_pos h6]
            by_cases h2 : s.st.getLast? = some 64 ∧ s.tok.kind ≠ 32 ∧ s.tok.kind ≠ 1024
            · simp only [if_pos h2]
            · simp only [if_neg h2]
          · simp only [if_neg h6]
            by_cases h7 : kd = 512
            · simp only [if_pos h7]
              by_cases h2 : s.st.getLast? = some 256 ∧ s.tok.kind ≠ 1024
              · simp only [if_pos h2]
              · simp only [if_neg h2]
            · simp only [if_neg h7]
              by_cases h2 : s.st ≠ [] ∧ (s.tok.kind = 2 ∨ s.tok.kind = 4 ∨ s.tok.kind = 8 ∨ s.tok.kind = 16 ∨ s.tok.kind = 128 ∨ s.tok.kind = 512)
              · simp only [if_pos h2]
              · simp only [if_neg h2]

/-- what holds of the reader's state always -/
def DS.ok (s : DS) : Prop := kindOk s.tok.kind ∧ OpenK s.st
theorem swJ_ok {bs : List UInt8} {s : DS} {kd k2 k' : Nat} {st : List Nat} {kd' : Nat} (h : swJ bs s kd k2 = some (st, kd', k')) (hs : s.ok) (hk : kindOk kd) : kindOk kd' ∧ OpenK st := by
  have hdl : OpenK s.st.dropLast := fun k hk => hs.2 k (List.dropLast_subset _ hk)
  unfold swJ at h
  repeat' split at h
  all_goals first
    | (cases h; done)
    | (simp only [Option.some.injEq, Prod.mk.injEq] at h; obtain ⟨rfl, rfl, _⟩ := h; refine ⟨?_, ?_⟩ <;> first | exact hk | exact hs.2 | exact hdl | (unfold kindOk; omega) | (intro k hk2; simp only [List.mem_append, List.mem_singleton] at hk2; rcases hk2 with hk2 | hk2; exact hs.2 k hk2; omega))

variable {B p g : Nat} {bs : List UInt8} {vr ve vst vo vi : Value} {s : DS} {w : World}
/-- 'd.lastToken = ..' -/
theorem DW.setTok (h : DW B p g bs vr ve vst vo vi s w) (t : TK) {vr' : Value} (hv : View w g vr' t.raw) :
    DW B p g bs vr' ve vst vo vi { s with tok := t } (((((w.setCell ⟨p, 1, none⟩ (.int .u16 (t.kind : Int))).setCell ⟨p, 2, none⟩ (.int .i64 (t.pos : Int))).setCell ⟨p, 3, none⟩ vr').setCell ⟨p, 4, none⟩ (.bool t.tru)).setCell ⟨p, 5, none⟩ (.string ⟨t.str.toArray⟩)) :=
  h.reset (grownBy_thenSet (grownBy_thenSet (grownBy_thenSet (grownBy_thenSet (grownBy_set w p 1 _) 2 _) 3 _) 4 _) 5 _)
    (by have := ((((h.row.set 1 (by simp [dCells, tokCells5]) (.int .u16 (t.kind : Int))).set 2 (by simp [dCells, tokCells5]) (.int .i64 (t.pos : Int))).set 3 (by simp [dCells, tokCells5]) vr').set 4 (by simp [dCells, tokCells5]) (.bool t.tru)).set 5 (by simp [dCells, tokCells5]) (.string ⟨t.str.toArray⟩); exact this)
    hv h.err rfl h.inn h.le
/-- 'd.lastErr = ..' -/
theorem DW.setErr (h : DW B p g bs vr ve vst vo vi s w) {ve' : Value} {b : Bool} (he : IsErr ve' b) : DW B p g bs vr ve' vst vo vi { s with bad := b } (w.setCell ⟨p, 6, none⟩ ve') :=
  h.reset (grownBy_set w p 6 _) (by have := h.row.set 6 (by simp [dCells, tokCells5]) ve'; exact this) h.raw he rfl h.inn h.le
/-- 'd.openStack = append(d.openStack, ..)' -/
theorem DW.push {w' : World} {v' : Value} {st' : List Nat} (h : DW B p g bs vr ve vst vo vi s w) (hg : w.grownBy w' vst.ownBlock) (hown : OwnK w' B v' st') (hl : v'.ownBlock = vst.ownBlock ∨ v'.ownBlock = some w.heap.size) :
    DW B p g bs vr ve v' vo vi { s with st := st' } (w'.setCell ⟨p, 7, none⟩ v') ∧ DStep p vst w v' (w'.setCell ⟨p, 7, none⟩ v') := by
  have hpb : w'.heap[p]? = w.heap[p]? := hg.block p h.lt (fun e => h.ps e.symm)
  have hgb : w'.heap[g]? = w.heap[g]? := hg.block g h.gl (fun e => h.gs e.symm)
  have hnp : v'.ownBlock ≠ some p := by
    rcases hl with e | e
    · rw [e]; exact h.ps
    · rw [e]; intro e2; injection e2 with e2; have := h.lt; omega
  have hng : v'.ownBlock ≠ some g := by
    rcases hl with e | e
    · rw [e]; exact h.gs
    · rw [e]; intro e2; injection e2 with e2; have := h.gl; omega
  have hsg : (w'.setCell ⟨p, 7, none⟩ v').heap[g]? = w.heap[g]? := (Below.heap_setCell w' ⟨p, 7, none⟩ v' g h.gp).trans hgb
  refine ⟨{
    row := by have := (h.row.kept hpb).set 7 (by simp [dCells, tokCells5]) v'; exact this
    raw := h.raw.kept hsg
    err := h.err
    own := World.ownsRow.kept hown (grownBy_set w' p 7 _) (.inr hnp)
    orig := h.orig.kept hsg
    inn := h.inn.kept hsg
    le := h.le
    glob := h.glob.kept fun k hk h5 => (Below.heap_setCell w' ⟨p, 7, none⟩ v' k (by have := h.b5; have := h.bp; show k ≠ p; omega)).trans (hg.block k hk (fun e => by have := h.ownLe k e.symm; have := h.b5; omega))
    b5 := h.b5
    bp := h.bp
    gp := h.gp
    gl := by show g < (w'.setCell ⟨p, 7, none⟩ v').heap.size; simp only [World.setCell, Array.size_modify]; have := hg.size; have := h.gl; omega
    gs := hng
    ps := hnp }, ?_⟩
  refine ⟨hg.os, hg.tape, hg.output, by simpa [World.setCell] using hg.size, fun k hk h1 h2 => (Below.heap_setCell w' ⟨p, 7, none⟩ v' k h1).trans (hg.block k hk (fun e => h2 e.symm)), fun k hk => ?_⟩
  rcases hl with e | e
  · exact .inl (e ▸ hk)
  · rw [e] at hk; injection hk with hk; exact .inr (by omega)
/-- 'd.openStack = d.openStack[:len(d.openStack)-1]' -/
theorem DW.pop {q m cp : Nat} (h : DW B p g bs vr ve (.slice (some ⟨q, 0, none⟩) (m + 1) cp) vo vi s w) (hm : s.st.length = m + 1) :
    DW B p g bs vr ve (.slice (some ⟨q, 0, none⟩) m cp) vo vi { s with st := s.st.dropLast } (w.setCell ⟨p, 7, none⟩ (.slice (some ⟨q, 0, none⟩) m cp)) ∧ DStep p (.slice (some ⟨q, 0, none⟩) (m + 1) cp) w (.slice (some ⟨q, 0, none⟩) m cp) (w.setCell ⟨p, 7, none⟩ (.slice (some ⟨q, 0, none⟩) m cp)) := by
  have hown : OwnK w B (.slice (some ⟨q, 0, none⟩) m cp) s.st.dropLast := by
    obtain ⟨h1, h2⟩ := h.own
    refine ⟨by simp, ?_⟩
    rcases h2 with ⟨e, _⟩ | ⟨q', cap, cur, e, hb, hg, hnc, hcm, hcs, ht⟩
    · cases e
    · injection e with e1 e2 e3
      injection e1 with e1
      injection e1 with e1
      subst e1 e3
      refine .inr ⟨q, cp, cur, by simp [hm], hb, hg, by simp; omega, hcm, hcs, ?_⟩
      have h3 := congrArg (List.take m) ht
      rw [List.take_take, hm] at h3
      simp only [Nat.mul_one] at h3
      rw [Nat.min_eq_left (by omega)] at h3
      simp only [List.length_dropLast, hm, Nat.add_sub_cancel, Nat.mul_one]
      rw [h3, List.dropLast_eq_take, hm, Nat.add_sub_cancel, List.map_take]
  have := h.push (w' := w) (v' := .slice (some ⟨q, 0, none⟩) m cp) ⟨rfl, rfl, rfl, Nat.le_refl _, fun _ _ _ => rfl⟩ hown (.inl rfl)
  exact this
end Go.Proofs.YtjkmmhnhhiopiaaDoor
