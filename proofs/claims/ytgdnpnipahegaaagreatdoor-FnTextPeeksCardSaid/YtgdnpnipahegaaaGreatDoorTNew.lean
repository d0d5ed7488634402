/-
 The package's reader of the text form, walked: a text's bytes; a new reader.
-/
import Derived.Test.YtgdnpnipahegaaaGreatDoorTState
import Derived.Test.YtgdnpnipahegaaaGreatDoorTParts
import Derived.Test.YtgdnpnipahegaaaGreatDoorDOut
namespace Go.Proofs.YtgdnpnipahegaaaGreatDoor
open Go.ChangeShapes Go.WideShapes Go.ChangeAt Go.RowKit

theorem rowAt_new {w : World} {q : Nat} {cs : Array Value} {t : TypeId} (h : w.heap[q]? = some (.cells cs t (0, 0))) : RowAt w q cs.toList := fun j u hu =>
 ⟨by rw [cell_of_row w q j cs t (0, 0) h, ← Array.getElem?_toList]; exact hu, frozen_of_row w q j cs t h⟩
section
variable {P : Program} {ops : Array Oper} {rest : List Oper} {o : Oper} {a : Act} {Q : Exit → Act → World → Prop}
theorem wpList_bytes_str (w : World) (hgd : o.guard = none) (x : Operand) (src dst e : TypeId) (ho : o.op = .convert src dst x)
  (hs : P.underlying src = some .string) (hd : P.underlying dst = some (.slice e)) (he : P.underlying e = some (.int .u8))
  (l : List UInt8) (hx : a.eval x = .string ⟨l.toArray⟩) (hm : l.length ≤ maxLen)
  (h : ∀ cap w', View w' w.heap.size (.slice (some ⟨w.heap.size, 0, none⟩) l.length cap) l → w'.heap.size = w.heap.size + 1 → Below w.heap.size w w' → wpList P ops Q rest (a.put o.dst (.slice (some ⟨w.heap.size, 0, none⟩) l.length cap)) w') : wpList P ops Q (o :: rest) a w := by
 refine wpList_plain hgd fun K hK => ?_
 have hrun := run_bytes_of_string (P := P) w src dst e ⟨l.toArray⟩ hs hd he
 have hsz : (ByteArray.mk l.toArray).size = l.length := size_mk l
 have hge := grownCap_ge w (ByteArray.mk l.toArray).size 0 e
 have hle := grownCap_le_maxLen w (ByteArray.mk l.toArray).size 0 e (by rw [hsz]; exact hm)
 generalize grownCap w (ByteArray.mk l.toArray).size 0 e = cap at hrun hge hle
 rw [hsz] at hrun hge
 unfold Oper.wp
 simp [execOp, ho, hx, hrun, Result.andThen]
 refine hK _ _ (h cap _ ?_ ?_ ?_)
 ·refine ⟨_, cap, rfl, hge, hle, (fun he => by cases he), 0, fun _ => rfl, fun j hj => ?_⟩
  have hn := heap_alloc_new w.drew (.cells (bytesRow ⟨l.toArray⟩ cap) e ((bytesRow ⟨l.toArray⟩ cap).size, (bytesRow ⟨l.toArray⟩ cap).size + 1))
  rw [Nat.zero_add]
  refine (cell_of_row _ w.heap.size j _ _ _ hn).trans ?_
  unfold bytesRow
  rw [Array.getElem?_append_left (by simp; exact hj)]
  simp [List.getElem?_eq_getElem hj]
 ·show (w.heap.push _).size = _
  simp
 ·exact (Below.refl _ _).drew.alloc (Nat.le_refl _) _
end
set_option maxRecDepth 100000 in
theorem newDecoder_any (v : Value) (bs : List UInt8) (g : Nat) (w : World) (hv : View w g v bs) (hg : g < w.heap.size) (hgl : Glob w) (h9 : 9 ≤ w.heap.size) :
  Calls Tryz.prog 13 #[v] w fun e w' => e = .returned (.pointer (some ⟨w.heap.size, 0, none⟩)) ∧ DW w.heap.size w.heap.size g bs (.slice none 0 0) .nilIface (.slice none 0 0) v v DT.new w' ∧ Below w.heap.size w w' := by
 obtain ⟨ao, n, c, rfl⟩ := View.slice3 hv
 have HV := hid hv
 have HG := hid hgl
 clear hv hgl
 go_enter Tryz.func13, Tryz.ntmps13
 go_wp2
 go_ret
 have hb := (Below.refl _ w).alloc (Nat.le_refl _) (.cells #[.int .u8 0, .int .u8 0, .int .u8 0, .int .u8 0, .int .i64 0, .slice none 0 0, .string { data := #[] }, .nilIface, .slice none 0 0, .slice ao n c, .slice ao n c] 59)
 refine ⟨rfl, ?_, hb⟩
 have hv := HV.out.below hb
 exact {
  row := rowAt_new (heap_alloc_new w _)
  raw := ⟨none, 0, rfl, Nat.le_refl _, Nat.zero_le _, fun _ => rfl, 0, fun h => absurd rfl h, fun j hj => by simp [DT.new, TT.zero] at hj⟩
  err := rfl
  own := World.ownsRow_nil _ _ _ _
  orig := hv
  inn := hv
  le := Nat.zero_le _
  glob := HG.out.kept fun k hk _ => hb.block k hk
  b9 := h9
  bp := Nat.le_refl _
  gp := by omega
  gl := Nat.lt_of_lt_of_le hg hb.size
  gs := fun e => by cases e
  ps := fun e => by cases e }
end Go.Proofs.YtgdnpnipahegaaaGreatDoor
