/-
  The thin package's list of tokens of JSON in memory: what an append leaves; a slice of bools that is only read.
-/
import Derived.Test.YtjkmmhnhhiopiaaDoorDJTok
import Derived.Deep.AppendLies
namespace Go.Proofs.YtjkmmhnhhiopiaaDoor
open Go.ChangeShapes Go.WideShapes Go.ChangeAt Go.RowKit

/-- The slice value v holds the tokens l, in a block of the calls' own. -/
def OwnJ (w : World) (B : Nat) (v : Value) (l : List TK) : Prop := w.ownsRow B 30 5 v l.length (l.flatMap jtCells)
theorem OwnJ.slice {w : World} {B : Nat} {v : Value} {l : List TK} (h : OwnJ w B v l) : ∃ ao c, v = .slice ao l.length c := by
  rcases h.2 with ⟨rfl, h0⟩ | ⟨g, cap, cur, rfl, _⟩
  · exact ⟨none, 0, by rw [h0]⟩
  · exact ⟨_, _, rfl⟩
theorem OwnJ.nil (w : World) (B : Nat) : OwnJ w B (.slice none 0 0) [] := World.ownsRow_nil _ _ _ _
theorem OwnJ.below {w w' : World} {B : Nat} {v : Value} {l : List TK} (h : OwnJ w B v l) (hb : Below w.heap.size w w') : OwnJ w' B v l :=
  World.ownsRow.kept h (row := none) ⟨hb.os, hb.tape, hb.output, hb.size, fun k hk _ => hb.block k hk⟩ (by cases v.ownBlock <;> simp)
theorem OwnJ.lt {w : World} {B : Nat} {v : Value} {l : List TK} (h : OwnJ w B v l) : ∀ k, v.ownBlock = some k → B ≤ k ∧ k < w.heap.size := fun k hk => World.ownsRow.lt h k hk
/-- a call on the reader leaves the list as it was -/
theorem OwnJ.step {w w' : World} {B p : Nat} {v vst vst' : Value} {l : List TK} (h : OwnJ w B v l) (hs : DStep p vst w vst' w') (hp : v.ownBlock ≠ some p) (hv : ∀ k, v.ownBlock = some k → vst.ownBlock ≠ some k) : OwnJ w' B v l := by
  refine ⟨h.1, ?_⟩
  rcases h.2 with hn | ⟨q, cap, cur, rfl, h1, h2, rest⟩
  · exact .inl hn
  · exact .inr ⟨q, cap, cur, rfl, h1, by rw [hs.block q (World.ownsRow.lt h q rfl).2 (fun e => hp (by rw [e]; rfl)) (hv q rfl)]; exact h2, rest⟩
/-- what append(out, t) leaves -/
structure Appj (w : World) (B : Nat) (v v' : Value) (l : List TK) (w' : World) : Prop where
  own : OwnJ w' B v' l
  grown : w.grownBy w' v.ownBlock
  lies : v'.ownBlock = v.ownBlock ∨ v'.ownBlock = some w.heap.size
theorem jtInfo : (Tryd.prog.info? 30).map (fun i => (i.zero, i.size, i.bytes)) = some (some (.agg #[.int .i64 0, .int .i64 0, .bool false, .string ⟨#[]⟩, .string ⟨#[]⟩]), 5, 56) := by kernel_rfl
section
variable {P : Program} {ops : Array Oper} {rest : List Oper} {o : Oper} {a : Act} {Q : Exit → Act → World → Prop} {K : Act → World → Prop} {E : Prop}
theorem wpList_append_jt (w : World) (hgd : o.guard = none) (s x : Operand) (t : TypeId)
    (ho : o.op = .call { callee := .builtin .append, args := #[s, x], argTypes := #[t, t] })
    (B : Nat) (ht : P.underlying t = some (.slice 30)) (hinfo : (P.info? 30).map (fun i => (i.zero, i.size, i.bytes)) = some (some (.agg #[.int .i64 0, .int .i64 0, .bool false, .string ⟨#[]⟩, .string ⟨#[]⟩]), 5, 56))
    (v : Value) (l : List TK) (hs : a.eval s = v) (hown : OwnJ w B v l) (ad : Addr) (c : Nat) (y : TK) (hx : a.eval x = .slice (some ad) 1 c) (hc : ∀ j u, (jtCells y)[j]? = some u → w.cell? (ad.add j) = some u) (hbase : B ≤ w.heap.size)
    (hlen : l.length ≤ 100000000)
    (h : ∀ v' w', Appj w B v v' (l ++ [y]) w' → wpList P ops Q rest (a.put o.dst v') w') : wpList P ops Q (o :: rest) a w := by
  obtain ⟨i, hi, hz, hz1, hz2⟩ := info_parts hinfo
  refine wpList_append_lies w hgd s x t ho B _ i _ 5 56 ht hi hz hz1 hz2 rfl (by decide) v l.length (l.flatMap jtCells) hs hown ad 1 c (jtCells y) hx rfl hc (by intro u hu; simp [jtCells] at hu; rcases hu with rfl | rfl | rfl | rfl | rfl <;> rfl) (by omega) (by unfold maxLen; omega) (by omega) hbase w.heap.size rfl ?_
  intro g cap w' hown' hgrow hat hlt
  refine h _ w' ⟨?_, hgrow, ?_⟩
  · unfold OwnJ
    rw [List.flatMap_append, List.length_append]
    simpa using hown'
  · rcases hat with h | h
    · exact .inl h.symm
    · exact .inr (by simp [Value.ownBlock, h])

/-- The slice value v reads as the bools ps; they lie below B. -/
def BView (w : World) (B : Nat) (v : Value) (ps : List Bool) : Prop :=
  ∃ ao cap, v = .slice ao ps.length cap ∧ ∀ j (hj : j < ps.length), ∃ b o, ao = some ⟨b, o, none⟩ ∧ b < B ∧ w.cell? ⟨b, o + j, none⟩ = some (.bool ps[j])
theorem BView.below {w w' : World} {B : Nat} {v : Value} {ps : List Bool} (h : BView w B v ps) (hb : Below B w w') : BView w' B v ps := by
  obtain ⟨ao, cap, rfl, h1⟩ := h
  refine ⟨ao, cap, rfl, fun j hj => ?_⟩
  obtain ⟨b, o, e1, e2, e3⟩ := h1 j hj
  exact ⟨b, o, e1, e2, (hb.cell (p := ⟨b, o + j, none⟩) e2).trans e3⟩
theorem BView.nil (w : World) (B : Nat) : BView w B (.slice none 0 0) [] := ⟨none, 0, rfl, fun j hj => absurd hj (Nat.not_lt_zero j)⟩
theorem wpList_index_bools (w : World) (hw : Region.wanted o (yielded ops a.tmps) = true) (x i : Operand) (t e : TypeId) (ho : o.op = .indexAddr t x i)
    (ht : P.underlying t = some (.slice e)) (hinfo : (P.info? e).map (fun i => (i.zero, i.size, i.bytes)) = some (some (.bool false), 1, 1))
    (B : Nat) (v : Value) (ps : List Bool) (hx : a.eval x = v) (hv : BView w B v ps) (k : IntKind) (n : Nat) (hi : a.eval i = .int k n) (h1 : n < ps.length)
    (h : ∀ ad : Addr, w.cell? ad = some (.bool ps[n]) → wpList P ops Q rest (a.put o.dst (.pointer (some ad))) w) : wpList P ops Q (o :: rest) a w := by
  obtain ⟨ao, cap, rfl, h2⟩ := hv
  obtain ⟨inf, hi1, hz, hz1, hz2⟩ := info_parts hinfo
  obtain ⟨b, off, rfl, _, h5⟩ := h2 n h1
  refine wpList_wanted hw fun K hK => ?_
  unfold Oper.wp
  simp [execOp, ho, hx, hi, Instr.indexAt, asIntOf, run_underlying ht, h1, sizeOf, typeInfo, hi1, hz1, Addr.add_lit]
  exact hK _ _ (h _ h5)
end
end Go.Proofs.YtjkmmhnhhiopiaaDoor
