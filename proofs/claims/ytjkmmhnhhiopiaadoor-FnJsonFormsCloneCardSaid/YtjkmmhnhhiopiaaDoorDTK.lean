/-
  A token in memory, what a call keeps of it, and what it tells.
-/
import Derived.Test.YtjkmmhnhhiopiaaDoorDReadB
import Derived.Test.YtjkmmhnhhiopiaaDoorDRun
import Derived.Deep.AppendLies

namespace Go.Proofs.YtjkmmhnhhiopiaaDoor
open Go.ChangeShapes Go.WideShapes Go.ChangeAt Go.RowKit

set_option maxRecDepth 100000 in
theorem tokPos_any (w : World) (k : Nat) (po : Int) (b : Bool) (t : ByteArray) (ao : Option Addr) (n c : Nat) :
    Calls Tryd.prog 53 #[.agg #[.int .u16 (k : Int), .int .i64 po, .slice ao n c, .bool b, .string t]] w fun e w' => e = .returned (.int .i64 po) ∧ Below w.heap.size w w' := by
  go_enter Tryd.func53, Tryd.ntmps53
  go_wp2
  go_ret
  exact ⟨rfl, (Below.refl _ _).alloc (Nat.le_refl _) _⟩
set_option maxRecDepth 100000 in
theorem tokBool_any (w : World) (po : Int) (b : Bool) (t : ByteArray) (ao : Option Addr) (n c : Nat) (k : Nat) (hk : k = 4) :
    Calls Tryd.prog 54 #[.agg #[.int .u16 (k : Int), .int .i64 po, .slice ao n c, .bool b, .string t]] w fun e w' => e = .returned (.bool b) ∧ Below w.heap.size w w' := by
  subst hk
  go_enter Tryd.func54, Tryd.ntmps54
  go_wp2
  go_ret
  exact ⟨rfl, (Below.refl _ _).alloc (Nat.le_refl _) _⟩
set_option maxRecDepth 100000 in
theorem tokStr_any (w : World) (po : Int) (b : Bool) (t : ByteArray) (ao : Option Addr) (n c : Nat) (k : Nat) (hk : k = 16) :
    Calls Tryd.prog 55 #[.agg #[.int .u16 (k : Int), .int .i64 po, .slice ao n c, .bool b, .string t]] w fun e w' => e = .returned (.string t) ∧ Below w.heap.size w w' := by
  subst hk
  go_enter Tryd.func55, Tryd.ntmps55
  go_wp2
  go_ret
  exact ⟨rfl, (Below.refl _ _).alloc (Nat.le_refl _) _⟩
set_option maxRecDepth 100000 in
theorem tokName_any (w : World) (po : Int) (b : Bool) (t : ByteArray) (ao : Option Addr) (n c : Nat) (k : Nat) (hk : k = 32) :
    Calls Tryd.prog 56 #[.agg #[.int .u16 (k : Int), .int .i64 po, .slice ao n c, .bool b, .string t]] w fun e w' => e = .returned (.string t) ∧ Below w.heap.size w w' := by
  subst hk
  go_enter Tryd.func56, Tryd.ntmps56
  go_wp2
  go_ret
  exact ⟨rfl, (Below.refl _ _).alloc (Nat.le_refl _) _⟩
end Go.Proofs.YtjkmmhnhhiopiaaDoor

namespace Go.Proofs.YtjkmmhnhhiopiaaDoor

/-- what a token of each kind bears -/
def TK.fit (t : TK) : Prop := (t.kind ≠ 4 → t.tru = false) ∧ (t.kind ≠ 16 → t.kind ≠ 32 → t.str = []) ∧ t.kind < 65536 ∧ t.pos < 1000000000
theorem nextJ_fit {l : List UInt8} {kd n : Nat} {b : Bool} {t : List UInt8} (h : nextJ l = some (kd, n, b, t)) : (kd ≠ 4 → b = false) ∧ (kd ≠ 16 → t = []) := by
  cases l with
  | nil => cases h; simp
  | cons c l =>
    rw [nextJ_cons] at h
    repeat' split at h
    all_goals first
      | (cases h; done)
      | (simp only [Option.some.injEq, Prod.mk.injEq] at h; obtain ⟨rfl, rfl, rfl, rfl⟩ := h; simp)
theorem swJ_len {bs : List UInt8} {s : DS} {kd k2 k' : Nat} {st : List Nat} {kd' : Nat} (h : swJ bs s kd k2 = some (st, kd', k')) : (st.length ≤ s.st.length ∨ kd' ≠ 1 ∧ st.length = s.st.length + 1) ∧ (kd' = kd ∨ kd = 16 ∧ kd' = 32) := by
  unfold swJ at h
  repeat' split at h
  all_goals first
    | (cases h; done)
    | (simp only [Option.some.injEq, Prod.mk.injEq] at h; obtain ⟨rfl, rfl, _⟩ := h; refine ⟨?_, ?_⟩ <;> first | omega | (left; simp; done) | (left; simp; omega) | (right; simp; omega))
/-- what holds of the reader's state behind each Read -/
structure DS.good (bs : List UInt8) (s : DS) : Prop where
  ok : s.ok
  st : s.st.length ≤ s.k
  k : s.k ≤ bs.length
  fit : s.tok.fit
theorem DS.good_new (bs : List UInt8) : DS.good bs DS.new := ⟨⟨.inl rfl, fun k hk => by cases hk⟩, Nat.le_refl _, Nat.zero_le _, ⟨fun _ => rfl, fun _ _ => rfl, by decide, by decide⟩⟩
theorem readC_good {bs : List UInt8} {s s' : DS} (h : readC bs s = (s', true)) (hg : s.good bs) (hm : bs.length ≤ 10000000) : s'.good bs := by
  have hok := readC_ok h hg.k
  rcases hn : nextJ (bs.drop (goN bs s.k 0)) with _ | ⟨kd, n, b, t⟩
  · rw [readC_none hn] at h; cases h
  · rw [readC_some hn] at h
    rcases hs : swJ bs s kd (goN bs (goN bs s.k 0) n) with _ | ⟨st, kd', k'⟩
    · rw [hs] at h; cases h
    · rw [hs] at h
      simp only [Prod.mk.injEq, and_true] at h
      have hkd : kindOk kd := by have := (nextJ_ok hn).2; unfold kindOk; omega
      have h1 := swJ_ok hs hg.ok hkd
      have h2 := swJ_len hs
      have h3 := nextJ_fit hn
      have h4 := goN_le (bs := bs) (k := s.k) (n := 0) (by have := hg.k; omega)
      have hst := hg.st
      subst h
      simp only at hok
      refine ⟨h1, ?_, hok.2.2.1, ?_, ?_, ?_, ?_⟩
      · show st.length ≤ k'
        rcases h2.1 with h5 | ⟨h5, h6⟩
        · omega
        · have := hok.2.2.2.2.1 h5; omega
      · intro h5; exact h3.1 (by rcases h2.2 with h6 | h6; rw [← h6]; exact h5; omega)
      · intro h5 h6
        exact h3.2 (by rcases h2.2 with h7 | h7; rw [← h7]; exact h5; exact absurd h7.2 h6)
      · show kd' < 65536
        have := h1.1; unfold kindOk at this; omega
      · show goN bs s.k 0 < 1000000000
        omega
theorem readF_good {bs : List UInt8} {s s' : DS} (h : readF bs s = (s', true)) (hg : s.good bs) (hm : bs.length ≤ 10000000) : s'.good bs := by
  unfold readF at h
  rcases hc : readC bs s with ⟨s1, b1⟩
  rw [hc] at h
  cases b1 with
  | false => cases h
  | true =>
    have h1 := readC_good hc hg hm
    simp only at h
    split at h
    · exact readC_good h h1 hm
    · cases h; exact h1
theorem peek_good {bs : List UInt8} {s s' : DS} (hp : s.peeked = false) (h : readJ bs s = (s', true)) (hg : s.good bs) (hm : bs.length ≤ 10000000) : s'.good bs := by
  rw [readJ_plain hp] at h; exact readF_good h hg hm
theorem runJ_succ (bs : List UInt8) (ps : List Bool) (f : Nat) (s : DS) (l : List TK) : runJ bs ps (f + 1) s l = match readJ bs (if ps.getD l.length false then peekJ bs s else s) with
    | (_, false) => (l, false)
    | (s', true) => if s'.tok.kind = 1 then (l, true) else runJ bs ps f s' (l ++ [s'.tok]) := rfl
/-- one token more -/
theorem run_step {bs : List UInt8} {ps : List Bool} {f : Nat} {s s' : DS} {l : List TK} (hf : bs.length + 1 ≤ f + s.k) (hk : s.k ≤ bs.length) (h : readJ bs (if ps.getD l.length false then peekJ bs s else s) = (s', true)) (h1 : s'.tok.kind ≠ 1) :
    ∃ f', f = f' + 1 ∧ runJ bs ps f s l = runJ bs ps f' s' (l ++ [s'.tok]) := by
  obtain ⟨f', rfl⟩ : ∃ f', f = f' + 1 := ⟨f - 1, by omega⟩
  refine ⟨f', rfl, ?_⟩
  rw [runJ_succ, h]
  simp only
  rw [if_neg h1]
theorem run_end {bs : List UInt8} {ps : List Bool} {f : Nat} {s s' : DS} {l : List TK} (hf : bs.length + 1 ≤ f + s.k) (hk : s.k ≤ bs.length) (h : readJ bs (if ps.getD l.length false then peekJ bs s else s) = (s', true)) (h1 : s'.tok.kind = 1) : runJ bs ps f s l = (l, true) := by
  obtain ⟨f', rfl⟩ : ∃ f', f = f' + 1 := ⟨f - 1, by omega⟩
  rw [runJ_succ, h]
  simp only
  rw [if_pos h1]
theorem run_bad {bs : List UInt8} {ps : List Bool} {f : Nat} {s s' : DS} {l : List TK} (hf : bs.length + 1 ≤ f + s.k) (hk : s.k ≤ bs.length) (h : readJ bs (if ps.getD l.length false then peekJ bs s else s) = (s', false)) : runJ bs ps f s l = (l, false) := by
  obtain ⟨f', rfl⟩ : ∃ f', f = f' + 1 := ⟨f - 1, by omega⟩
  rw [runJ_succ, h]
end Go.Proofs.YtjkmmhnhhiopiaaDoor

namespace Go.Proofs.YtjkmmhnhhiopiaaDoor
open Go.ChangeShapes Go.WideShapes Go.ChangeAt Go.RowKit

/-- the cells of a token as plain data -/
def jtCells (t : TK) : List Value := [.int .i64 (t.kind : Int), .int .i64 (t.pos : Int), .bool t.tru, .string ⟨t.raw.toArray⟩, .string ⟨t.str.toArray⟩]
theorem bcell {W w1 : World} (hb : Below W.heap.size W w1) : (∀ b o, b < W.heap.size → w1.cell? ⟨b, o, none⟩ = W.cell? ⟨b, o, none⟩) ∧ (∀ b o, b < W.heap.size → w1.frozen? ⟨b, o, none⟩ = W.frozen? ⟨b, o, none⟩) :=
  ⟨fun b o h => hb.cell (p := ⟨b, o, none⟩) h, fun b o h => hb.frozen (p := ⟨b, o, none⟩) h⟩
theorem jt_stored {wA W w4 : World} {o : Obj} {N : Nat} {k po x r z : Value} {z0 z1 z2 z3 z4 : Value} (hN : N = W.heap.size) (hq : wA.heap.size ≤ N) (h0 : RowAt (W.alloc o) W.heap.size [z0, z1, z2, z3, z4]) (hk : w4.heap[N]? = (W.alloc o).heap[N]?) (hB4 : Below wA.heap.size wA w4) :
    ∃ q, Value.pointer (some ⟨N, 0, none⟩) = .pointer (some ⟨q, 0, none⟩) ∧ wA.heap.size ≤ q ∧ RowAt (((((w4.setCell ⟨N, 0, none⟩ k).setCell ⟨N, 1, none⟩ po).setCell ⟨N, 2, none⟩ x).setCell ⟨N, 3, none⟩ r).setCell ⟨N, 4, none⟩ z) q [k, po, x, r, z] ∧
      Below wA.heap.size wA (((((w4.setCell ⟨N, 0, none⟩ k).setCell ⟨N, 1, none⟩ po).setCell ⟨N, 2, none⟩ x).setCell ⟨N, 3, none⟩ r).setCell ⟨N, 4, none⟩ z) := by
  subst hN
  exact ⟨_, rfl, hq, store5 (h0.kept hk) _ _ _ _ _, ((((hB4.setCell hq _).setCell hq _).setCell hq _).setCell hq _).setCell hq _⟩
set_option maxRecDepth 100000 in
set_option maxHeartbeats 4000000 in
theorem jsonToken_any {g : Nat} (v : Value) (t : TK) (w : World) (hv : View w g v t.raw) (ht : t.fit) :
    Calls Tryd.prog 33 #[tokV v t] w fun e w' => e = .returned (.agg (jtCells t).toArray) ∧ Below w.heap.size w w' := by
  obtain ⟨ao, n, c, rfl⟩ := hv.slice3
  unfold tokV
  obtain ⟨wA, hwA⟩ : ∃ wA, wA = (w.alloc (.cells #[.int .u16 (t.kind : Int), .int .i64 (t.pos : Int), .slice ao n c, .bool t.tru, .string ⟨t.str.toArray⟩] 70)).alloc (.cells #[.int .i64 0, .int .i64 0, .bool false, .string { data := #[] }, .string { data := #[] }] 30) := ⟨_, rfl⟩
  have hbA : Below w.heap.size w wA := by rw [hwA]; exact ((Below.refl _ w).alloc (Nat.le_refl _) _).alloc (by simp) _
  have HV := hid (hv.below hbA)
  have htok : RowAt wA w.heap.size [.int .u16 (t.kind : Int), .int .i64 (t.pos : Int), .slice ao n c, .bool t.tru, .string ⟨t.str.toArray⟩] := by rw [hwA]; exact rowAt_new (heap_alloc2_old w _ _)
  have hout : RowAt wA (w.heap.size + 1) [.int .i64 0, .int .i64 0, .bool false, .string { data := #[] }, .string { data := #[] }] := by rw [hwA]; exact rowAt_new (heap_alloc2_new w _ _)
  have KB : Hid (∀ w', Below wA.heap.size wA w' → w'.cell? ⟨w.heap.size, 0, none⟩ = some (.int .u16 (t.kind : Int)) ∧ w'.cell? ⟨w.heap.size, 1, none⟩ = some (.int .i64 (t.pos : Int)) ∧ w'.cell? ⟨w.heap.size, 2, none⟩ = some (.slice ao n c) ∧ w'.cell? ⟨w.heap.size, 3, none⟩ = some (.bool t.tru) ∧ w'.cell? ⟨w.heap.size, 4, none⟩ = some (.string ⟨t.str.toArray⟩)) := hid fun w' hb => ⟨((htok.below htok.lt hb) 0 _ rfl).1, ((htok.below htok.lt hb) 1 _ rfl).1, ((htok.below htok.lt hb) 2 _ rfl).1, ((htok.below htok.lt hb) 3 _ rfl).1, ((htok.below htok.lt hb) 4 _ rfl).1⟩
  have K0 := hid (KB.out wA.drew (Below.refl _ _).drew)
  have K0A := hid fun (o : Obj) => KB.out (wA.alloc o).drew ((Below.refl _ _).alloc (Nat.le_refl _) o).drew
  have KST : Hid (∀ (w1 : World) (q : Nat) (z0 z1 z2 z3 z4 : Value), w.heap.size < q → (w1.cell? ⟨w.heap.size, 0, none⟩ = some (.int .u16 (t.kind : Int)) ∧ w1.cell? ⟨w.heap.size, 1, none⟩ = some (.int .i64 (t.pos : Int)) ∧ w1.cell? ⟨w.heap.size, 2, none⟩ = some (.slice ao n c) ∧ w1.cell? ⟨w.heap.size, 3, none⟩ = some (.bool t.tru) ∧ w1.cell? ⟨w.heap.size, 4, none⟩ = some (.string ⟨t.str.toArray⟩)) → (((((w1.setCell ⟨q, 0, none⟩ z0).setCell ⟨q, 1, none⟩ z1).setCell ⟨q, 2, none⟩ z2).setCell ⟨q, 3, none⟩ z3).setCell ⟨q, 4, none⟩ z4).cell? ⟨w.heap.size, 0, none⟩ = some (.int .u16 (t.kind : Int)) ∧ (((((w1.setCell ⟨q, 0, none⟩ z0).setCell ⟨q, 1, none⟩ z1).setCell ⟨q, 2, none⟩ z2).setCell ⟨q, 3, none⟩ z3).setCell ⟨q, 4, none⟩ z4).cell? ⟨w.heap.size, 1, none⟩ = some (.int .i64 (t.pos : Int)) ∧ (((((w1.setCell ⟨q, 0, none⟩ z0).setCell ⟨q, 1, none⟩ z1).setCell ⟨q, 2, none⟩ z2).setCell ⟨q, 3, none⟩ z3).setCell ⟨q, 4, none⟩ z4).cell? ⟨w.heap.size, 2, none⟩ = some (.slice ao n c) ∧ (((((w1.setCell ⟨q, 0, none⟩ z0).setCell ⟨q, 1, none⟩ z1).setCell ⟨q, 2, none⟩ z2).setCell ⟨q, 3, none⟩ z3).setCell ⟨q, 4, none⟩ z4).cell? ⟨w.heap.size, 3, none⟩ = some (.bool t.tru) ∧ (((((w1.setCell ⟨q, 0, none⟩ z0).setCell ⟨q, 1, none⟩ z1).setCell ⟨q, 2, none⟩ z2).setCell ⟨q, 3, none⟩ z3).setCell ⟨q, 4, none⟩ z4).cell? ⟨w.heap.size, 4, none⟩ = some (.string ⟨t.str.toArray⟩)) := hid fun w1 q z0 z1 z2 z3 z4 hq h => by
    have k : ∀ {o : Nat} {x : Value}, w1.cell? ⟨w.heap.size, o, none⟩ = some x → (((((w1.setCell ⟨q, 0, none⟩ z0).setCell ⟨q, 1, none⟩ z1).setCell ⟨q, 2, none⟩ z2).setCell ⟨q, 3, none⟩ z3).setCell ⟨q, 4, none⟩ z4).cell? ⟨w.heap.size, o, none⟩ = some x := fun h => (World.cell?_of_block (store5_other w1 q z0 z1 z2 z3 z4 _ (by show w.heap.size ≠ q; omega))).trans h
    exact ⟨k h.1, k h.2.1, k h.2.2.1, k h.2.2.2.1, k h.2.2.2.2⟩
  have hwk : IntKind.i64.wrap (t.kind : Int) = (t.kind : Int) := wraps_i64' _ (by omega) (by have := ht.2.2.1; omega)
  have hsz : w.heap.size + 2 ≤ wA.heap.size := by rw [hwA, size_alloc, size_alloc]; omega
  have HO := hid hout
  have HBA := hid hbA
  clear hv hbA htok hout
  go_enter Tryd.func33, Tryd.ntmps33
  go_upto_region 1 with fail
  rw [← hwA]
  clear hwA
  go_cut [3] from 3 to 11 (fun v3 wx => ∃ q, v3 = .pointer (some ⟨q, 0, none⟩) ∧ wA.heap.size ≤ q ∧ RowAt wx q [.int .i64 (t.kind : Int), .int .i64 (t.pos : Int), .bool false, .string ⟨t.raw.toArray⟩, .string { data := #[] }] ∧ Below wA.heap.size wA wx)
  case first =>
    go_region_held3 (fun w' => w'.cell? ⟨w.heap.size, 0, none⟩ = some (.int .u16 (t.kind : Int)) ∧ w'.cell? ⟨w.heap.size, 1, none⟩ = some (.int .i64 (t.pos : Int)) ∧ w'.cell? ⟨w.heap.size, 2, none⟩ = some (.slice ao n c) ∧ w'.cell? ⟨w.heap.size, 3, none⟩ = some (.bool t.tru) ∧ w'.cell? ⟨w.heap.size, 4, none⟩ = some (.string ⟨t.str.toArray⟩)) (first | with_reducible exact K0.out | with_reducible exact K0A.out _ | with_reducible exact K2.out | with_reducible exact K2A.out _ | with_reducible exact K3.out | with_reducible exact K3A.out _ | with_reducible exact K4.out | with_reducible exact K4A.out _ | (with_reducible refine KST.out _ _ _ _ _ _ _ ?_ K4.out; omega))
        (first
          | (go_at_call 32; refine (kind_any (.slice ao n c) _ _ _ _ _ rfl).mono ?_; rintro e w2 ⟨rfl, hb2⟩; have hB2 : Below wA.heap.size wA w2 := below_comp (by first | exact (Below.refl _ _).drew | exact ((Below.refl _ _).alloc (Nat.le_refl _) _).drew) hb2; have K2 := hid (KB.out w2 hB2); have K2A := hid fun (o : Obj) => KB.out (w2.alloc o) (below_alloc' hB2 o); obtain ⟨hc2, hf2⟩ := bcell hb2; have hz2 := hB2.size; have hy2 := hb2.size; (try simp at hy2); (try have hx2 : wA.heap.size < w2.heap.size := by omega))
          | (go_at_call 53; refine (tokPos_any _ _ _ _ _ _ _ _).mono ?_; rintro e w3 ⟨rfl, hb3⟩; have hB3 : Below wA.heap.size wA w3 := below_comp (by first | exact hB2 | exact below_alloc' hB2 _) hb3; have K3 := hid (KB.out w3 hB3); have K3A := hid fun (o : Obj) => KB.out (w3.alloc o) (below_alloc' hB3 o); obtain ⟨hc3, hf3⟩ := bcell hb3; have hz3 := hB3.size; have hy3 := hb3.size; (try simp at hy3); (try have hx3 : w2.heap.size < w3.heap.size := by omega); (try have hx4 : wA.heap.size < w3.heap.size := by omega))
          | (go_at_call 50; refine (rawString_any _ _ _ _ _ _ _ (HV.out.below (by first | exact hB3 | exact below_alloc' hB3 _))).mono ?_; rintro e w4 ⟨rfl, hb4⟩; have hB4 : Below wA.heap.size wA w4 := below_comp (by first | exact hB3 | exact below_alloc' hB3 _) hb4; have K4 := hid (KB.out w4 hB4); have K4A := hid fun (o : Obj) => KB.out (w4.alloc o) (below_alloc' hB4 o); obtain ⟨hc4, hf4⟩ := bcell hb4; have hz4 := hB4.size; have hy4 := hb4.size; (try simp at hy4); (try have hx5 : w3.heap.size < w4.heap.size := by omega); (try have hx6 : w2.heap.size < w4.heap.size := by omega); (try have hx7 : wA.heap.size < w4.heap.size := by omega)))
    all_goals (go_wp2_with fail)
    all_goals go_meet
    · exact ⟨_, rfl, by omega, rowAt_new (heap_alloc_new w4 _), below_alloc' hB4 _⟩
    · exact jt_stored (W := w3) rfl (by omega) (rowAt_new (heap_alloc_new w3 _)) (hb4.block _ (by simp)) hB4
    · exact jt_stored (W := w2) rfl (by omega) (rowAt_new (heap_alloc_new w2 _)) ((hb4.block _ (by omega)).trans (hb3.block _ (by simp))) hB4
    · exact jt_stored (W := wA) rfl (by omega) (rowAt_new (heap_alloc_new wA _)) ((hb4.block _ (by omega)).trans ((hb3.block _ (by omega)).trans (hb2.block _ (by simp)))) hB4
  case rest =>
    obtain ⟨q, rfl, hq, hrow, hbx⟩ := hcut
    obtain ⟨b0, b1, b2, b3, b4⟩ := KB.out wc hbx
    have hzx := hbx.size
    have hqx := hrow.lt
    have hwx : w.heap.size < wc.heap.size := by omega
    have HROW := hid hrow
    have HBX := hid hbx
    clear hrow hbx K0 K0A KST
    have FIN : Hid (∀ (wy : World) (l : List Value), Below wc.heap.size wc wy → RowAt wy q l → ∀ j u, l[j]? = some u → wy.cell? ⟨q, j, none⟩ = some u) := hid fun wy l _ hr j u hu => (hr j u hu).1
    have HEND : Hid (∀ (W : World) (z0 z1 z2 z3 z4 : Value), Below wA.heap.size wA W → RowAt (((((W.setCell ⟨w.heap.size + 1, 0, none⟩ z0).setCell ⟨w.heap.size + 1, 1, none⟩ z1).setCell ⟨w.heap.size + 1, 2, none⟩ z2).setCell ⟨w.heap.size + 1, 3, none⟩ z3).setCell ⟨w.heap.size + 1, 4, none⟩ z4) (w.heap.size + 1) [z0, z1, z2, z3, z4] ∧ Below w.heap.size w (((((W.setCell ⟨w.heap.size + 1, 0, none⟩ z0).setCell ⟨w.heap.size + 1, 1, none⟩ z1).setCell ⟨w.heap.size + 1, 2, none⟩ z2).setCell ⟨w.heap.size + 1, 3, none⟩ z3).setCell ⟨w.heap.size + 1, 4, none⟩ z4)) :=
      hid fun W z0 z1 z2 z3 z4 hb => ⟨store5 (HO.out.below HO.out.lt hb) z0 z1 z2 z3 z4, (((((HBA.out.trans (hb.mono (by omega))).setCell (by show w.heap.size ≤ w.heap.size + 1; omega) _).setCell (by show w.heap.size ≤ w.heap.size + 1; omega) _).setCell (by show w.heap.size ≤ w.heap.size + 1; omega) _).setCell (by show w.heap.size ≤ w.heap.size + 1; omega) _).setCell (by show w.heap.size ≤ w.heap.size + 1; omega) _⟩
    by_cases h4 : t.kind = 4
    · have e1 : ((t.kind : Int) == 4) = true := by simp; omega
      have hs : Hid (t.str = []) := hid (ht.2.1 (by omega) (by omega))
      obtain ⟨c2, f2⟩ := HROW.out 2 _ rfl
      have H4 := hid h4
      clear h4
      go_upto_region 9 with (first | (go_at_call 32; refine (kind_any (.slice ao n c) _ _ _ _ _ rfl).mono ?_; rintro e w5 ⟨rfl, hb5⟩; obtain ⟨hc5, hf5⟩ := bcell hb5; have hz5 := hb5.size; have hwx5 : w.heap.size < w5.heap.size := (by omega); have hqx5 : q < w5.heap.size := (by omega)) | (go_at_call 54; refine (tokBool_any _ _ _ _ _ _ _ _ H4.out).mono ?_; rintro e w6 ⟨rfl, hb6⟩; obtain ⟨hc6, hf6⟩ := bcell hb6; have hz6 := hb6.size; have hwx6 : w.heap.size < w6.heap.size := (by omega); have hqx6 : q < w6.heap.size := (by omega)))
      have HW := hid (((HROW.out.below hqx hb5).below (by omega) hb6).set 2 (by simp) (.bool t.tru))
      obtain ⟨W, hW⟩ : ∃ W, W = (w6.setCell ⟨q, 2, none⟩ (.bool t.tru)) := ⟨_, rfl⟩; have HBW : Hid (Below wA.heap.size wA W) := hid (by rw [hW]; exact ((HBX.out.trans (hb5.mono (by omega))).trans (hb6.mono (by omega))).setCell (by show wA.heap.size ≤ q; omega) _); have hR : RowAt W q (jtCells t) := (by have := HW.out; rw [hW]; unfold jtCells; rw [hs.out]; exact this); rw [← hW]; clear hW HW; obtain ⟨r0, _⟩ := hR 0 _ rfl; obtain ⟨r1, _⟩ := hR 1 _ rfl; obtain ⟨r2, _⟩ := hR 2 _ rfl; obtain ⟨r3, _⟩ := hR 3 _ rfl; obtain ⟨r4, _⟩ := hR 4 _ rfl; have hO := HO.out.below HO.out.lt HBW.out; obtain ⟨o0, g0⟩ := hO 0 _ rfl; obtain ⟨o1, g1⟩ := hO 1 _ rfl; obtain ⟨o2, g2⟩ := hO 2 _ rfl; obtain ⟨o3, g3⟩ := hO 3 _ rfl; obtain ⟨o4, g4⟩ := hO 4 _ rfl; clear hO hR
      go_wp2_with fail; refine bodyPost_ret_by (results_cell1 (by rfl) _ _ (w.heap.size + 1) (jtCells t) _ (by rfl) (HEND.out W _ _ _ _ _ HBW.out).1 Tryd.underlying30 (by rfl) (by kernel_rfl)) (by rfl) ?_; exact ⟨rfl, (HEND.out W _ _ _ _ _ HBW.out).2⟩
    · have e1 : ((t.kind : Int) == 4) = false := by simp; omega
      have htru : Hid (t.tru = false) := hid (ht.1 h4)
      by_cases h16 : t.kind = 16
      · have e2 : ((t.kind : Int) == 16) = true := by simp; omega
        obtain ⟨c2, f2⟩ := HROW.out 4 _ rfl
        have H16 := hid h16
        clear h16
        go_upto_region 9 with (first | (go_at_call 32; refine (kind_any (.slice ao n c) _ _ _ _ _ rfl).mono ?_; rintro e w5 ⟨rfl, hb5⟩; obtain ⟨hc5, hf5⟩ := bcell hb5; have hz5 := hb5.size; have hwx5 : w.heap.size < w5.heap.size := (by omega); have hqx5 : q < w5.heap.size := (by omega)) | (go_at_call 55; refine (tokStr_any _ _ _ _ _ _ _ _ H16.out).mono ?_; rintro e w6 ⟨rfl, hb6⟩; obtain ⟨hc6, hf6⟩ := bcell hb6; have hz6 := hb6.size; have hwx6 : w.heap.size < w6.heap.size := (by omega); have hqx6 : q < w6.heap.size := (by omega)))
        have HW := hid (((HROW.out.below hqx hb5).below (by omega) hb6).set 4 (by simp) (.string ⟨t.str.toArray⟩))
        obtain ⟨W, hW⟩ : ∃ W, W = (w6.setCell ⟨q, 4, none⟩ (.string ⟨t.str.toArray⟩)) := ⟨_, rfl⟩; have HBW : Hid (Below wA.heap.size wA W) := hid (by rw [hW]; exact ((HBX.out.trans (hb5.mono (by omega))).trans (hb6.mono (by omega))).setCell (by show wA.heap.size ≤ q; omega) _); have hR : RowAt W q (jtCells t) := (by have := HW.out; rw [hW]; unfold jtCells; rw [htru.out]; exact this); rw [← hW]; clear hW HW; obtain ⟨r0, _⟩ := hR 0 _ rfl; obtain ⟨r1, _⟩ := hR 1 _ rfl; obtain ⟨r2, _⟩ := hR 2 _ rfl; obtain ⟨r3, _⟩ := hR 3 _ rfl; obtain ⟨r4, _⟩ := hR 4 _ rfl; have hO := HO.out.below HO.out.lt HBW.out; obtain ⟨o0, g0⟩ := hO 0 _ rfl; obtain ⟨o1, g1⟩ := hO 1 _ rfl; obtain ⟨o2, g2⟩ := hO 2 _ rfl; obtain ⟨o3, g3⟩ := hO 3 _ rfl; obtain ⟨o4, g4⟩ := hO 4 _ rfl; clear hO hR
        go_wp2_with fail; refine bodyPost_ret_by (results_cell1 (by rfl) _ _ (w.heap.size + 1) (jtCells t) _ (by rfl) (HEND.out W _ _ _ _ _ HBW.out).1 Tryd.underlying30 (by rfl) (by kernel_rfl)) (by rfl) ?_; exact ⟨rfl, (HEND.out W _ _ _ _ _ HBW.out).2⟩
      · have e2 : ((t.kind : Int) == 16) = false := by simp; omega
        by_cases h32 : t.kind = 32
        · have e3 : ((t.kind : Int) == 32) = true := by simp; omega
          obtain ⟨c2, f2⟩ := HROW.out 4 _ rfl
          have H32 := hid h32
          clear h32
          go_upto_region 9 with (first | (go_at_call 32; refine (kind_any (.slice ao n c) _ _ _ _ _ rfl).mono ?_; rintro e w5 ⟨rfl, hb5⟩; obtain ⟨hc5, hf5⟩ := bcell hb5; have hz5 := hb5.size; have hwx5 : w.heap.size < w5.heap.size := (by omega); have hqx5 : q < w5.heap.size := (by omega)) | (go_at_call 56; refine (tokName_any _ _ _ _ _ _ _ _ H32.out).mono ?_; rintro e w6 ⟨rfl, hb6⟩; obtain ⟨hc6, hf6⟩ := bcell hb6; have hz6 := hb6.size; have hwx6 : w.heap.size < w6.heap.size := (by omega); have hqx6 : q < w6.heap.size := (by omega)))
          have HW := hid (((HROW.out.below hqx hb5).below (by omega) hb6).set 4 (by simp) (.string ⟨t.str.toArray⟩))
          obtain ⟨W, hW⟩ : ∃ W, W = (w6.setCell ⟨q, 4, none⟩ (.string ⟨t.str.toArray⟩)) := ⟨_, rfl⟩; have HBW : Hid (Below wA.heap.size wA W) := hid (by rw [hW]; exact ((HBX.out.trans (hb5.mono (by omega))).trans (hb6.mono (by omega))).setCell (by show wA.heap.size ≤ q; omega) _); have hR : RowAt W q (jtCells t) := (by have := HW.out; rw [hW]; unfold jtCells; rw [htru.out]; exact this); rw [← hW]; clear hW HW; obtain ⟨r0, _⟩ := hR 0 _ rfl; obtain ⟨r1, _⟩ := hR 1 _ rfl; obtain ⟨r2, _⟩ := hR 2 _ rfl; obtain ⟨r3, _⟩ := hR 3 _ rfl; obtain ⟨r4, _⟩ := hR 4 _ rfl; have hO := HO.out.below HO.out.lt HBW.out; obtain ⟨o0, g0⟩ := hO 0 _ rfl; obtain ⟨o1, g1⟩ := hO 1 _ rfl; obtain ⟨o2, g2⟩ := hO 2 _ rfl; obtain ⟨o3, g3⟩ := hO 3 _ rfl; obtain ⟨o4, g4⟩ := hO 4 _ rfl; clear hO hR
          go_wp2_with fail; refine bodyPost_ret_by (results_cell1 (by rfl) _ _ (w.heap.size + 1) (jtCells t) _ (by rfl) (HEND.out W _ _ _ _ _ HBW.out).1 Tryd.underlying30 (by rfl) (by kernel_rfl)) (by rfl) ?_; exact ⟨rfl, (HEND.out W _ _ _ _ _ HBW.out).2⟩
        · have e3 : ((t.kind : Int) == 32) = false := by simp; omega
          have hs : Hid (t.str = []) := hid (ht.2.1 h16 h32)
          go_upto_region 9 with (first | (go_at_call 32; refine (kind_any (.slice ao n c) _ _ _ _ _ rfl).mono ?_; rintro e w5 ⟨rfl, hb5⟩; obtain ⟨hc5, hf5⟩ := bcell hb5; have hz5 := hb5.size; have hwx5 : w.heap.size < w5.heap.size := (by omega); have hqx5 : q < w5.heap.size := (by omega)) | fail)
          have HW := hid (HROW.out.below hqx hb5)
          obtain ⟨W, hW⟩ : ∃ W, W = w5 := ⟨_, rfl⟩; have HBW : Hid (Below wA.heap.size wA W) := hid (by rw [hW]; exact HBX.out.trans (hb5.mono (by omega))); have hR : RowAt W q (jtCells t) := (by have := HW.out; rw [hW]; unfold jtCells; rw [hs.out, htru.out]; exact this); rw [← hW]; clear hW HW; obtain ⟨r0, _⟩ := hR 0 _ rfl; obtain ⟨r1, _⟩ := hR 1 _ rfl; obtain ⟨r2, _⟩ := hR 2 _ rfl; obtain ⟨r3, _⟩ := hR 3 _ rfl; obtain ⟨r4, _⟩ := hR 4 _ rfl; have hO := HO.out.below HO.out.lt HBW.out; obtain ⟨o0, g0⟩ := hO 0 _ rfl; obtain ⟨o1, g1⟩ := hO 1 _ rfl; obtain ⟨o2, g2⟩ := hO 2 _ rfl; obtain ⟨o3, g3⟩ := hO 3 _ rfl; obtain ⟨o4, g4⟩ := hO 4 _ rfl; clear hO hR
          go_wp2_with fail; refine bodyPost_ret_by (results_cell1 (by rfl) _ _ (w.heap.size + 1) (jtCells t) _ (by rfl) (HEND.out W _ _ _ _ _ HBW.out).1 Tryd.underlying30 (by rfl) (by kernel_rfl)) (by rfl) ?_; exact ⟨rfl, (HEND.out W _ _ _ _ _ HBW.out).2⟩
end Go.Proofs.YtjkmmhnhhiopiaaDoor

namespace Go.Proofs.YtjkmmhnhhiopiaaDoor
open Go.ChangeShapes Go.WideShapes Go.ChangeAt Go.RowKit

/-- The slice value v holds the tokens l, in a block of the calls' own. -/
def OwnJ (w : World) (B : Nat) (v : Value) (l : List TK) : Prop := w.ownsRow B 30 5 v l.length (l.flatMap jtCells)
theorem OwnJ.slice {w : World} {B : Nat} {v : Value} {l : List TK} (h : OwnJ w B v l) : ∃ ao c, v = .slice ao l.length c := by
  rcases h.2 with ⟨rfl, h0⟩ | ⟨g, cap, cur, rfl, _⟩
  · exact ⟨none, 0, by rw [h0]⟩
  · exact ⟨_, _, rfl⟩
theorem OwnJ.nil (w : World) (B : Nat) : OwnJ w B (.slice none 0 0) [] := World.ownsRow_nil _ _ _ _
theorem OwnJ.below {w w' : World} {B : Nat} {v : Value} {l : List TK} (h : OwnJ w B v l) (hb : Below w.heap.size w w') : OwnJ w' B v l :=
  World.ownsRow.kept h (row := none) ⟨hb.os, hb.tape, hb.output, hb.size, fun k hk _ => hb.block k hk⟩ (by cases v.ownBlock <;> simp)
theorem OwnJ.lt {w : World} {B : Nat} {v : Value} {l : List TK} (h : OwnJ w B v l) : ∀ k, v.ownBlock = some k → B ≤ k ∧ k < w.heap.size := fun k hk => World.ownsRow.lt h k hk
/-- a call on the reader leaves the list as it was -/
theorem OwnJ.step {w w' : World} {B p : Nat} {v vst vst' : Value} {l : List TK} (h : OwnJ w B v l) (hs : DStep p vst w vst' w') (hp : v.ownBlock ≠ some p) (hv : ∀ k, v.ownBlock = some k → vst.ownBlock ≠ some k) : OwnJ w' B v l := by
  refine ⟨h.1, ?_⟩
  rcases h.2 with hn | ⟨q, cap, cur, rfl, h1, h2, rest⟩
  · exact .inl hn
  · exact .inr ⟨q, cap, cur, rfl, h1, by rw [hs.block q (World.ownsRow.lt h q rfl).2 (fun e => hp (by rw [e]; try rfl)) (hv q rfl)]; exact h2, rest⟩
/-- what append(out, t) leaves -/
structure Appj (w : World) (B : Nat) (v v' : Value) (l : List TK) (w' : World) : Prop where
  own : OwnJ w' B v' l
  grown : w.grownBy w' v.ownBlock
  lies : v'.ownBlock = v.ownBlock ∨ v'.ownBlock = some w.heap.size
theorem jtInfo : (Tryd.prog.info? 30).map (fun i => (i.zero, i.size, i.bytes)) = some (some (.agg #[.int .i64 0, .int .i64 0, .bool false, .string ⟨#[]⟩, .string ⟨#[]⟩]), 5, 56) := by kernel_rfl
section
variable {P : Program} {ops : Array Oper} {rest : List Oper} {o : Oper} {a : Act} {Q : Exit → Act → World → Prop} {K : Act → World → Prop} {E : Prop}
theorem wpList_append_jt (w : World) (hgd : o.guard = none) (s x : Operand) (t : TypeId)
    (ho : o.op = .call { callee := .builtin .append, args := #[s, x], argTypes := #[t, t] })
    (B : Nat) (ht : P.underlying t = some (.slice 30)) (hinfo : (P.info? 30).map (fun i => (i.zero, i.size, i.bytes)) = some (some (.agg #[.int .i64 0, .int .i64 0, .bool false, .string ⟨#[]⟩, .string ⟨#[]⟩]), 5, 56))
    (v : Value) (l : List TK) (hs : a.eval s = v) (hown : OwnJ w B v l) (ad : Addr) (c : Nat) (y : TK) (hx : a.eval x = .slice (some ad) 1 c) (hc : ∀ j u, (jtCells y)[j]? = some u → w.cell? (ad.add j) = some u) (hbase : B ≤ w.heap.size)
    (hlen : l.length ≤ 100000000)
    (h : ∀ v' w', Appj w B v v' (l ++ [y]) w' → wpList P ops Q rest (a.put o.dst v') w') : wpList P ops Q (o :: rest) a w := by
  obtain ⟨i, hi, hz, hz1, hz2⟩ := info_parts hinfo
  refine wpList_append_lies w hgd s x t ho B _ i _ 5 56 ht hi hz hz1 hz2 rfl (by decide) v l.length (l.flatMap jtCells) hs hown ad 1 c (jtCells y) hx rfl hc (by intro u hu; simp [jtCells] at hu; rcases hu with rfl | rfl | rfl | rfl | rfl <;> rfl) (by omega) (by unfold maxLen; omega) (by omega) hbase w.heap.size rfl ?_
  intro g cap w' hown' hgrow hat hlt
  refine h _ w' ⟨?_, hgrow, ?_⟩
  · unfold OwnJ
    rw [List.flatMap_append, List.length_append]
    simpa using hown'
  · rcases hat with h | h
    · exact .inl h.symm
    · exact .inr (by simp [Value.ownBlock, h])

/-- The slice value v reads as the bools ps; they lie below B. -/
def BView (w : World) (B : Nat) (v : Value) (ps : List Bool) : Prop :=
  ∃ ao cap, v = .slice ao ps.length cap ∧ ∀ j (hj : j < ps.length), ∃ b o, ao = some ⟨b, o, none⟩ ∧ b < B ∧ w.cell? ⟨b, o + j, none⟩ = some (.bool ps[j])
theorem BView.below {w w' : World} {B : Nat} {v : Value} {ps : List Bool} (h : BView w B v ps) (hb : Below B w w') : BView w' B v ps := by
  obtain ⟨ao, cap, rfl, h1⟩ := h
  refine ⟨ao, cap, rfl, fun j hj => ?_⟩
  obtain ⟨b, o, e1, e2, e3⟩ := h1 j hj
  exact ⟨b, o, e1, e2, (hb.cell (p := ⟨b, o + j, none⟩) e2).trans e3⟩
theorem BView.nil (w : World) (B : Nat) : BView w B (.slice none 0 0) [] := ⟨none, 0, rfl, fun j hj => absurd hj (Nat.not_lt_zero j)⟩
theorem wpList_index_bools (w : World) (hw : Region.wanted o (yielded ops a.tmps) = true) (x i : Operand) (t e : TypeId) (ho : o.op = .indexAddr t x i)
    (ht : P.underlying t = some (.slice e)) (hinfo : (P.info? e).map (fun i => (i.zero, i.size, i.bytes)) = some (some (.bool false), 1, 1))
    (B : Nat) (v : Value) (ps : List Bool) (hx : a.eval x = v) (hv : BView w B v ps) (k : IntKind) (n : Nat) (hi : a.eval i = .int k n) (h1 : n < ps.length)
    (h : ∀ ad : Addr, w.cell? ad = some (.bool ps[n]) → wpList P ops Q rest (a.put o.dst (.pointer (some ad))) w) : wpList P ops Q (o :: rest) a w := by
  obtain ⟨ao, cap, rfl, h2⟩ := hv
  obtain ⟨inf, hi1, hz, hz1, hz2⟩ := info_parts hinfo
  obtain ⟨b, off, rfl, _, h5⟩ := h2 n h1
  refine wpList_wanted hw fun K hK => ?_
  unfold Oper.wp
  simp [execOp, ho, hx, hi, Instr.indexAt, asIntOf, run_underlying ht, h1, sizeOf, typeInfo, hi1, hz1, Addr.add_lit]
  exact hK _ _ (h _ h5)
end
end Go.Proofs.YtjkmmhnhhiopiaaDoor
