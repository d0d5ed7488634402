/-
 The thin package's list of tokens of the text form in memory: what an append leaves; a slice of bools that is only read. And a reading, round for round, in plain Lean.
-/
import Derived.Test.YtgdnpnipahegaaaGreatDoorJR
import Derived.Test.YtgdnpnipahegaaaGreatDoorJG
import Derived.Deep.AppendLies
namespace Go.Proofs.YtgdnpnipahegaaaGreatDoor
open Go.ChangeShapes Go.WideShapes Go.ChangeAt Go.RowKit

def OwnX (w : World) (B : Nat) (v : Value) (l : List TT) : Prop := w.ownsRow B 34 6 v l.length (l.flatMap txCells)
theorem OwnX.slice {w : World} {B : Nat} {v : Value} {l : List TT} (h : OwnX w B v l) : ∃ ao c, v = .slice ao l.length c := by
 rcases h.2 with ⟨rfl, h0⟩ | ⟨g, cap, cur, rfl, _⟩
 ·exact ⟨none, 0, by rw [h0]⟩
 ·exact ⟨_, _, rfl⟩
theorem OwnX.nil (w : World) (B : Nat) : OwnX w B (.slice none 0 0) [] := World.ownsRow_nil _ _ _ _
theorem OwnX.below {w w' : World} {B : Nat} {v : Value} {l : List TT} (h : OwnX w B v l) (hb : Below w.heap.size w w') : OwnX w' B v l :=
 World.ownsRow.kept h (row := none) ⟨hb.os, hb.tape, hb.output, hb.size, fun k hk _ => hb.block k hk⟩ (by cases v.ownBlock <;> simp)
theorem OwnX.lt {w : World} {B : Nat} {v : Value} {l : List TT} (h : OwnX w B v l) : ∀ k, v.ownBlock = some k → B ≤ k ∧ k < w.heap.size := fun k hk => World.ownsRow.lt h k hk
theorem OwnX.grownOther {w w' : World} {B q : Nat} {v : Value} {l : List TT} (h : OwnX w B v l) (hg : w.grownBy w' (some q)) (hq : ∀ k, v.ownBlock = some k → k ≠ q) : OwnX w' B v l :=
 World.ownsRow.kept h hg (by
  cases hv : v.ownBlock with
  | none => exact .inl rfl
  | some k => exact .inr (fun e => by injection e with e; exact hq k hv e))
theorem OwnX.step {w w' : World} {B p : Nat} {v vst vst' : Value} {l : List TT} (h : OwnX w B v l) (hs : DStep p vst w vst' w') (hp : v.ownBlock ≠ some p) (hv : ∀ k, v.ownBlock = some k → vst.ownBlock ≠ some k) : OwnX w' B v l := by
 refine ⟨h.1, ?_⟩
 rcases h.2 with hn | ⟨q, cap, cur, rfl, h1, h2, rest⟩
 ·exact .inl hn
 ·exact .inr ⟨q, cap, cur, rfl, h1, by rw [hs.block q (World.ownsRow.lt h q rfl).2 (fun e => hp (by rw [e]; rfl)) (hv q rfl)]; exact h2, rest⟩
theorem step_far {p : Nat} {v v1 v2 : Value} {w w' : World} (h : DStep p v1 w v2 w') (hv : ∀ k, v.ownBlock = some k → v1.ownBlock ≠ some k) (hl : ∀ k, v.ownBlock = some k → k < w.heap.size) : ∀ k, v.ownBlock = some k → v2.ownBlock ≠ some k := fun k hk e => by
 rcases h.lies k e with h1 | h1
 ·exact hv k hk h1
 ·have := hl k hk; omega
structure Appx (w : World) (B : Nat) (v v' : Value) (l : List TT) (w' : World) : Prop where
 own : OwnX w' B v' l
 grown : w.grownBy w' v.ownBlock
 lies : v'.ownBlock = v.ownBlock ∨ v'.ownBlock = some w.heap.size
theorem txInfo : (Tryz.prog.info? 34).map (fun i => (i.zero, i.size, i.bytes)) = some (some (.agg #[.int .i64 0, .int .i64 0, .int .i64 0, .bool false, .string ⟨#[]⟩, .string ⟨#[]⟩]), 6, 64) := by kernel_rfl
def BView (w : World) (B : Nat) (v : Value) (ps : List Bool) : Prop :=
 ∃ ao cap, v = .slice ao ps.length cap ∧ ∀ j (hj : j < ps.length), ∃ b o, ao = some ⟨b, o, none⟩ ∧ b < B ∧ w.cell? ⟨b, o + j, none⟩ = some (.bool ps[j])
theorem BView.below {w w' : World} {B : Nat} {v : Value} {ps : List Bool} (h : BView w B v ps) (hb : Below B w w') : BView w' B v ps := by
 obtain ⟨ao, cap, rfl, h1⟩ := h
 refine ⟨ao, cap, rfl, fun j hj => ?_⟩
 obtain ⟨b, o, e1, e2, e3⟩ := h1 j hj
 exact ⟨b, o, e1, e2, (hb.cell (p := ⟨b, o + j, none⟩) e2).trans e3⟩
theorem BView.nil (w : World) (B : Nat) : BView w B (.slice none 0 0) [] := ⟨none, 0, rfl, fun j hj => absurd hj (Nat.not_lt_zero j)⟩
theorem BView.mono {w : World} {B B' : Nat} {v : Value} {ps : List Bool} (h : BView w B v ps) (hb : B ≤ B') : BView w B' v ps := by
 obtain ⟨ao, cap, rfl, h1⟩ := h
 refine ⟨ao, cap, rfl, fun j hj => ?_⟩
 obtain ⟨b, o, e1, e2, e3⟩ := h1 j hj
 exact ⟨b, o, e1, by omega, e3⟩
theorem infoBool : (Tryz.prog.info? 4).map (fun i => (i.zero, i.size, i.bytes)) = some (some (.bool false), 1, 1) := by kernel_rfl
theorem oneBoolT : OneCell Tryz.prog 4 := fun w => by simp [isAgg, Sem.run_bind, go_sem]
section
variable {N : Nat} {D : List Deferred} {a : Act} {l : List (Nat × Value)} {L rest : List Oper} {Q : Exit → Act → World → Prop} {w : World} {d : Nat} {ty : TypeId} {pos : String} {af : Array Edge}
theorem y_idxBools {x i : Operand} {v : Value} {B n : Nat} {ps : List Bool} (H : Has N D a l) (hx : ev l x = some v) (hi : ev l i = some (.int .i64 (n : Int))) (hv : BView w B v ps) (h1 : n < ps.length) (hd : Nat.blt d N = true)
  (h : ∀ a ad, Has N D a ((d, .pointer (some ad)) :: l) → w.cell? ad = some (.bool (ps.getD n false)) → wpList Tryz.prog L.toArray Q rest a w) : wpList Tryz.prog L.toArray Q (⟨some d, .indexAddr 32 x i, ty, pos, af, none⟩ :: rest) a w := by
 obtain ⟨ao, cap, rfl, h2⟩ := hv
 obtain ⟨inf, hi1, hz, hz1, hz2⟩ := info_parts infoBool
 obtain ⟨b, off, rfl, _, h5⟩ := h2 n h1
 have e1 := H.ev hx
 have e2 := H.ev hi
 refine y_wp H hd (v := .pointer (some ⟨b, off + n, none⟩)) (w' := w) (by simp [execOp, e1, e2, Instr.indexAt, asIntOf, run_underlying Tryz.underlying32, h1, sizeOf, typeInfo, hi1, hz1, Addr.add_lit]) ?_
 exact fun a H => h a _ H (by rw [h5, List.getD_eq_getElem?_getD, List.getElem?_eq_getElem h1]; rfl)
theorem y_oneTx {x : Operand} {c0 c1 c2 c3 c4 c5 : Value} (H : Has N D a l) (hx : ev l x = some (.agg #[c0, c1, c2, c3, c4, c5])) (hd : Nat.blt d N = true)
  (h : ∀ w', RowAt w' w.heap.size [c0, c1, c2, c3, c4, c5] → Below w.heap.size w w' → w'.heap.size = w.heap.size + 1 → ∀ a, Has N D a ((d, .slice (some ⟨w.heap.size, 0, none⟩) 1 1) :: l) → wpList Tryz.prog L.toArray Q rest a w') : wpList Tryz.prog L.toArray Q (⟨some d, .buildSlice 28 1 #[(0, x)], ty, pos, af, none⟩ :: rest) a w := by
 obtain ⟨inf, hi1, hz, hz1, hz2⟩ := info_parts txInfo
 have h1 := H.ev hx
 have := run_buildSlice (P := Tryz.prog) w 28 34 1 #[(0, .agg #[c0, c1, c2, c3, c4, c5])] #[c0, c1, c2, c3, c4, c5] inf _ Tryz.underlying28 hi1 hz (by rw [hz1]; decide) (by rw [hz1]; decide) (by rw [hz1]; kernel_rfl)
 refine y_wp H hd (v := .slice (some ⟨w.heap.size, 0, none⟩) 1 1) (w' := w.alloc (.cells #[c0, c1, c2, c3, c4, c5] 34)) (by simp [execOp, h1, this, Result.andThen]) ?_
 exact h _ (rowAt_new (heap_alloc_new w _)) ((Below.refl _ w).alloc (Nat.le_refl _) _) (size_allocT w _)
theorem y_appTx {s x : Operand} {B q c : Nat} {v : Value} {ls : List TT} {t : TT} (H : Has N D a l) (hs : ev l s = some v) (hown : OwnX w B v ls) (hx : ev l x = some (.slice (some ⟨q, 0, none⟩) 1 c)) (hc : RowAt w q (txCells t)) (hB : B ≤ w.heap.size) (hlen : ls.length ≤ 100000000) (hd : Nat.blt d N = true)
  (h : ∀ v' w', Appx w B v v' (ls ++ [t]) w' → ∀ a, Has N D a ((d, v') :: l) → wpList Tryz.prog L.toArray Q rest a w') :
  wpList Tryz.prog L.toArray Q (⟨some d, .call { callee := .builtin .append, args := #[s, x], argTypes := #[28, 28] }, ty, pos, af, none⟩ :: rest) a w := by
 obtain ⟨i, hi, hz, hz1, hz2⟩ := info_parts txInfo
 refine wpList_append_lies w rfl s x 28 rfl B _ i _ 6 64 Tryz.underlying28 hi hz hz1 hz2 rfl (by decide) v ls.length (ls.flatMap txCells) (H.ev hs) hown ⟨q, 0, none⟩ 1 c (txCells t) (H.ev hx) rfl (fun j u hj => by rw [Addr.add_lit, Nat.zero_add]; exact (hc j u hj).1) (by intro u hu; simp [txCells] at hu; rcases hu with rfl | rfl | rfl | rfl | rfl | rfl <;> rfl) (by omega) (by unfold maxLen; omega) (by omega) hB w.heap.size rfl ?_
 intro g cap w' hown' hgrow hat hlt
 refine h _ w' ⟨?_, hgrow, ?_⟩ _ (H.put hd)
 ·unfold OwnX
  rw [List.flatMap_append, List.length_append]
  simpa using hown'
 ·rcases hat with h | h
  ·exact .inl h.symm
  ·exact .inr (by simp [Value.ownBlock, h])
end
theorem peekT_peeked (bs : List UInt8) (s : DT) : (peekT bs s).peeked = true := by
 unfold peekT
 by_cases h : s.peeked = true
 ·rw [if_pos h]; exact h
 ·rw [if_neg h]
  cases readF bs s <;> rfl
theorem like_read {bs : List UInt8} {a b : DT} (h : Like a b) : readT bs b = readT bs a := by
 rcases h with rfl | ⟨h1, h2, h3, h4⟩
 ·rfl
 ·rw [readT_seen h1, readT_seen h3, h2, h4]; rfl
theorem like_peeked {a b : DT} (h : Like a b) (ha : a.peeked = true) : b.peeked = true := by
 rcases h with rfl | ⟨_, _, h3, _⟩
 ·exact ha
 ·exact h3
theorem run_unf {bs : List UInt8} {ps : List Bool} {f : Nat} {s : DT} {l : List TT} (hp : s.peeked = false) (hb : s.bad = false) (hk : s.k ≤ bs.length) :
  runT bs ps (f + 1) s l = match readT bs s with | none => (l, false) | some s1 => if s1.tok.kind = 1 then (l, true) else runT bs ps f s1 (l ++ [s1.tok]) := by
 show (match readT bs (if ps.getD l.length false then peekT bs s else s) with | none => (l, false) | some s1 => if s1.tok.kind = 1 then (l, true) else runT bs ps f s1 (l ++ [s1.tok])) = _
 cases ps.getD l.length false with
 | false => rfl
 | true => simp only [if_true]; rw [read_peek hp hb hk]
theorem run_none {bs : List UInt8} {ps : List Bool} {f : Nat} {s : DT} {l : List TT} (hp : s.peeked = false) (hb : s.bad = false) (hk : s.k ≤ bs.length) (h : readT bs s = none) : runT bs ps (f + 1) s l = (l, false) := by rw [run_unf hp hb hk, h]
theorem run_eof {bs : List UInt8} {ps : List Bool} {f : Nat} {s s1 : DT} {l : List TT} (hp : s.peeked = false) (hb : s.bad = false) (hk : s.k ≤ bs.length) (h : readT bs s = some s1) (h1 : s1.tok.kind = 1) : runT bs ps (f + 1) s l = (l, true) := by rw [run_unf hp hb hk, h]; simp only; rw [if_pos h1]
theorem run_more {bs : List UInt8} {ps : List Bool} {f : Nat} {s s1 : DT} {l : List TT} (hp : s.peeked = false) (hb : s.bad = false) (hk : s.k ≤ bs.length) (h : readT bs s = some s1) (h1 : s1.tok.kind ≠ 1) : runT bs ps (f + 1) s l = runT bs ps f s1 (l ++ [s1.tok]) := by rw [run_unf hp hb hk, h]; simp only; rw [if_neg h1]
def TFit (bs : List UInt8) (t : TT) : Prop := t.pos ≤ bs.length ∧ (t.kind = 2 → t.att = 1 ∨ t.att = 2 ∨ t.att = 3)
theorem sepT_fit {bs : List UInt8} {x : TT × Nat} (h : TFit bs x.1) : TFit bs (sepT bs x).1 := by
 obtain ⟨t, k⟩ := x
 unfold sepT
 simp only
 split
 ·split
  ·exact h
  ·exact h
 ·exact h
theorem field_fit {bs : List UInt8} {k : Nat} {x : TT × Nat} (h : fieldT bs k = some x) (hk : k ≤ bs.length) : TFit bs x.1 := by
 rw [fieldT_eq] at h
 rcases hf : fieldI bs k with _ | y
 ·rw [hf] at h; cases h
 ·rw [hf] at h
  obtain rfl : sepT bs y = x := by simpa using h
  apply sepT_fit
  unfold fieldI at hf
  split at hf
  ·cases hf
  ·split at hf
   ·unfold typeT at hf
    split at hf
    ·cases hf
    ·split at hf
     ·cases hf; exact ⟨hk, fun _ => .inr (.inl rfl)⟩
     ·cases hf
   ·split at hf
    ·cases hf; exact ⟨hk, fun _ => .inl rfl⟩
    ·split at hf
     ·cases hf
     ·split at hf
      ·cases hf; exact ⟨hk, fun _ => .inr (.inr rfl)⟩
      ·cases hf
theorem next_fit {bs : List UInt8} {last : Nat} {st : List UInt8} {k0 : Nat} {x : TT × List UInt8 × Nat} (hk : k0 ≤ bs.length) (h : nextT bs last st k0 = some x) : TFit bs x.1 := by
 have hg := goT_le (bs := bs) (k := k0) (n := 0) (by omega)
 rw [nextB_eq] at h
 generalize goT bs k0 0 = k at *
 have tok : ∀ {kd n : Nat} {st' : List UInt8}, withSt st' (some (tokT bs k kd n 0)) = some x → kd ≠ 2 → TFit bs x.1 := by
  intro kd n st' he hkd
  cases he
  exact ⟨hg.2, fun h => absurd h hkd⟩
 have fld : ∀ {st' : List UInt8}, withSt st' (fieldT bs k) = some x → TFit bs x.1 := by
  intro st' he
  rcases hf : fieldT bs k with _ | y
  ·rw [hf] at he; cases he
  ·rw [hf] at he; cases he; exact field_fit hf hg.2
 have scl : ∀ {st' : List UInt8}, withSt st' (scalarT bs k) = some x → TFit bs x.1 := by
  intro st' he
  rcases hf : scalarT bs k with _ | y
  ·rw [hf] at he; cases he
  ·rw [hf] at he
   have := ok_scalar hf
   cases he
   exact ⟨by have := this.1.pos; show y.1.pos ≤ _; omega, fun h => by have h3 := this.2; have h4 : y.1.kind = 2 := h; omega⟩
 have top : ∀ {b : Bool}, inTop bs b st k = some x → TFit bs x.1 := by
  intro b he
  unfold inTop at he
  split at he
  ·exact tok he (by decide)
  ·split at he
   ·exact tok he (by decide)
   ·split at he
    ·exact tok he (by decide)
    ·exact fld he
 have msg : ∀ {b : Bool}, inMsg bs b st k = some x → TFit bs x.1 := by
  intro b he
  unfold inMsg at he
  split at he
  ·cases he
  ·split at he
   ·exact tok he (by decide)
   ·split at he
    ·cases he
    ·split at he
     ·exact tok he (by decide)
     ·split at he
      ·exact tok he (by decide)
      ·exact fld he
 have val : ∀ {l b : Bool}, value1 bs l b st k = some x → TFit bs x.1 := by
  intro l b he
  unfold value1 at he
  split at he
  ·cases he
  ·split at he
   ·exact tok he (by decide)
   ·split at he
    ·exact tok he (by decide)
    ·split at he
     ·exact tok he (by decide)
     ·exact scl he
 unfold nextB at h
 split at h
 ·exact tok h (by decide)
 ·split at h
  ·exact top h
  ·split at h
   ·exact val h
   ·split at h
    ·exact msg h
    ·split at h
     ·exact val h
     ·split at h
      ·split at h
       ·exact top h
       ·split at h
        ·exact msg h
        ·exact val h
      ·split at h
       ·exact top h
       ·split at h
        ·exact msg h
        ·unfold inList at h
         split at h
         ·cases h
         ·split at h
          ·exact tok h (by decide)
          ·split at h
           ·exact tok h (by decide)
           ·cases h
theorem readF_keeps {bs : List UInt8} {s s1 : DT} (h : readF bs s = some s1) (hk : s.k ≤ bs.length) (ho : DOk2 s.st s.tok.kind s.k) : DOk2 s1.st s1.tok.kind s1.k ∧ TFit bs s1.tok := by
 unfold readF stepT at h
 rcases hS : nextT bs s.tok.kind s.st s.k with _ | ⟨t, st, k⟩
 ·rw [hS] at h; cases h
 ·rw [hS] at h
  have h1 := next_ok2 hk hS ho
  have h2 := next_fit hk hS
  have h3 := (next_ok hS hk).le
  simp only at h h1 h2 h3
  split at h
  ·rcases hS2 : nextT bs t.kind st k with _ | ⟨t2, st2, k2⟩
   ·rw [hS2] at h; cases h
   ·rw [hS2] at h
    cases h
    exact ⟨next_ok2 h3 hS2 h1, next_fit h3 hS2⟩
  ·cases h
   exact ⟨h1, h2⟩
end Go.Proofs.YtgdnpnipahegaaaGreatDoor
