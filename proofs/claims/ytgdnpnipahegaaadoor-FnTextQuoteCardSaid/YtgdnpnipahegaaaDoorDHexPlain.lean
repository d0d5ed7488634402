/-
  The number that hexadecimal digits write; a string's bytes as a slice of its own.
-/
import Derived.Test.YtgdnpnipahegaaaDoorDUint
namespace Go.Proofs.YtgdnpnipahegaaaDoor
open Go.ChangeShapes Go.WideShapes Go.ChangeAt Go.RowKit Go.Lib

section
variable {P : Program} {ops : Array Oper} {rest : List Oper} {o : Oper} {a : Act} {Q : Exit → Act → World → Prop}
/-- '[]byte(s)' -/
theorem wpList_conv_bytes (w : World) (hw : Region.wanted o (yielded ops a.tmps) = true) (x : Operand) (src dst e : TypeId) (ho : o.op = .convert src dst x)
    (hs : P.underlying src = some .string) (hd : P.underlying dst = some (.slice e)) (he : P.underlying e = some (.int .u8))
    (l : List UInt8) (hx : a.eval x = .string ⟨l.toArray⟩) (hm : l.length ≤ 1000000000)
    (h : ∀ v' w', View w' w.heap.size v' l → Below w.heap.size w w' → wpList P ops Q rest (a.put o.dst v') w') : wpList P ops Q (o :: rest) a w := by
  have hsz : (⟨l.toArray⟩ : ByteArray).size = l.length := size_mk l
  have hcm : grownCap w (⟨l.toArray⟩ : ByteArray).size 0 e ≤ maxLen := grownCap_le_maxLen w _ 0 e (by rw [hsz]; unfold maxLen; omega)
  have hcg := grownCap_ge w (⟨l.toArray⟩ : ByteArray).size 0 e
  refine wpList_wanted hw fun K hK => ?_
  have hrun := run_bytes_of_string (P := P) w src dst e ⟨l.toArray⟩ hs hd he
  generalize grownCap w (⟨l.toArray⟩ : ByteArray).size 0 e = cap at *
  unfold Oper.wp
  simp [execOp, ho, hx, hrun, Result.andThen]
  refine hK _ _ (h _ _ ?_ ?_)
  · rw [hsz] at hcg ⊢
    refine ⟨_, cap, rfl, hcg, hcm, (fun h => by cases h), 0, fun _ => rfl, fun j hj => ?_⟩
    rw [cell_of_row _ w.heap.size (0 + j) _ e _ (heap_alloc_new w.drew _)]
    unfold bytesRow
    rw [Nat.zero_add, Array.getElem?_append_left (by simpa using hj)]
    simp [hj]
  · exact (Below.refl _ _).drew.alloc (by simp) _
end

/-- The number that hexadecimal digits write, behind the number 'acc'. -/
def hexN : Nat → List UInt8 → Option Nat
  | acc, [] => some acc
  | acc, c :: l => if hexV c.toNat < 16 then hexN (acc * 16 + hexV c.toNat) l else none
def hexRes (l : List UInt8) : Value := match hexN 0 l with
  | some n => .tuple #[.int .u64 (n : Int), .nilIface]
  | none => .tuple #[.int .u64 0, .iface 92 (.int .i64 2)]
theorem hexRes_some {l : List UInt8} {n : Nat} (h : hexN 0 l = some n) : hexRes l = .tuple #[.int .u64 (n : Int), .nilIface] := by unfold hexRes; rw [h]
theorem hexRes_none {l : List UInt8} (h : hexN 0 l = none) : hexRes l = .tuple #[.int .u64 0, .iface 92 (.int .i64 2)] := by unfold hexRes; rw [h]
theorem hexN_step {l : List UInt8} {k acc : Nat} (hk : k < l.length) : hexN acc (l.drop k) = if hexV l[k].toNat < 16 then hexN (acc * 16 + hexV l[k].toNat) (l.drop (k + 1)) else none := by
  rw [List.drop_eq_getElem_cons hk, hexN]
theorem hexN_lt : ∀ (l : List UInt8) (acc n : Nat), hexN acc l = some n → n + 1 ≤ (acc + 1) * 16 ^ l.length := by
  intro l
  induction l with
  | nil => intro acc n h; simp [hexN] at h; simp; omega
  | cons c l ih =>
    intro acc n h
    rw [hexN] at h
    by_cases hc : hexV c.toNat < 16
    · rw [if_pos hc] at h
      have := ih _ _ h
      rw [List.length_cons, Nat.pow_succ, Nat.mul_comm (16 ^ l.length) 16, ← Nat.mul_assoc]
      exact Nat.le_trans this (Nat.mul_le_mul_right _ (by omega))
    · rw [if_neg hc] at h; cases h

end Go.Proofs.YtgdnpnipahegaaaDoor
