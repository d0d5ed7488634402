/-
 A slice of bytes that is a full piece of what came in, or the call's own: append makes it the call's own; slicing as equations. Over any program.
-/
import Derived.Test.YtgdnpnipahegaaaGreatDoorJA
import Derived.ArgAppend
import Derived.Lib.AppendStr
import Derived.Deep.Onto
namespace Go.Proofs.YtgdnpnipahegaaaGreatDoor
open Go.ChangeShapes Go.WideShapes Go.ChangeAt Go.RowKit

def OutV (w : World) (B : Nat) (e : TypeId) (v : Value) (bs : List UInt8) : Prop :=
 OwnB w B e v bs ∨ ∃ ad : Addr, v = .slice (some ad) bs.length bs.length ∧ ∀ j u, (byteCells bs)[j]? = some u → w.cell? (ad.add j) = some u
theorem add_block (a : Addr) (j : Nat) : (a.add j).block = a.block := by unfold Addr.add; split <;> rfl
theorem OutV.below {w w' : World} {B : Nat} {e : TypeId} {v : Value} {bs : List UInt8} (h : OutV w B e v bs) (hb : Below w.heap.size w w') : OutV w' B e v bs := by
 rcases h with h | ⟨ad, hv, hc⟩
 ·exact .inl (World.ownsRow.kept h (row := none) ⟨hb.os, hb.tape, hb.output, hb.size, fun k hk _ => hb.block k hk⟩ (by cases v.ownBlock <;> simp))
 ·exact .inr ⟨ad, hv, fun j u hu => (hb.cell (World.block_lt_of_cell? w _ (hc j u hu))).trans (hc j u hu)⟩
theorem OutV.slice {w : World} {B : Nat} {e : TypeId} {v : Value} {bs : List UInt8} (h : OutV w B e v bs) : ∃ ao c, v = .slice ao bs.length c := by
 rcases h with h | ⟨ad, rfl, _⟩
 ·rcases h.2 with ⟨rfl, h0⟩ | ⟨g, cap, cur, rfl, _⟩
  ·exact ⟨none, 0, by rw [h0]⟩
  ·exact ⟨_, _, rfl⟩
 ·exact ⟨_, _, rfl⟩

theorem cell_one {w : World} {N : Nat} {e : TypeId} {n : Int} (y : UInt8) (hn : n = (y.toNat : Int)) (hg : w.heap[N]? = some (.cells #[.int .u8 n] e (0, 0))) : ∀ j u, (byteCells [y])[j]? = some u → w.cell? ((⟨N, 0, none⟩ : Addr).add j) = some u := by
 intro j u hu
 match j, hu with
 | 0, hu =>
  simp [byteCells] at hu
  subst hu hn
  rw [Addr.add_lit, cell_of_row w N (0 + 0) _ e _ hg]
  rfl
theorem le_alloc (w : World) (o : Obj) {n : Nat} (h : n ≤ w.heap.size) : n ≤ (w.alloc o).heap.size := by
 show _ ≤ (w.heap.push o).size
 simp; omega
section
variable {P : Program} {ops : Array Oper} {rest : List Oper} {o : Oper} {a : Act} {Q : Exit → Act → World → Prop} {K : Act → World → Prop} {E : Prop}

theorem run_append_out (w : World) (t ty e : TypeId) (ht : P.underlying t = some (.slice e)) (hinfo : (P.info? e).map (fun i => (i.zero, i.size, i.bytes)) = some (some (.int .u8 0), 1, 1))
  (B : Nat) (hB : B ≤ w.heap.size) (v : Value) (bs : List UInt8) (hout : OutV w B e v bs) (ad : Addr) (m c : Nat) (ys : List UInt8) (hl : ys.length = m) (hm : 1 ≤ m)
  (hc : ∀ j u, (byteCells ys)[j]? = some u → w.cell? (ad.add j) = some u) (hlen : bs.length + m ≤ 140737488355328) :
  ∃ v' w', (Builtin.append_ #[t, t] ty #[v, .slice (some ad) m c]).run P w = .ok v' w' ∧ OwnB w' B e v' (bs ++ ys) ∧ Below B w w' := by
 obtain ⟨i, hi, hz, hz1, hz2⟩ := info_parts hinfo
 rcases hout with h | ⟨b, rfl, hcells⟩
 ·obtain ⟨v', w', h1, h2, h3, _⟩ := run_append_own (P := P) w B t ty e i (.int .u8 0) 1 1 ht hi hz hz1 hz2 rfl (by decide) v bs.length (byteCells bs) h ad m c (byteCells ys) (by rw [length_byteCells, hl, Nat.mul_one]) hc (by intro u hu; simp [byteCells] at hu; obtain ⟨_, _, rfl⟩ := hu; rfl) (by unfold maxLen; omega) (by omega) hB
  refine ⟨v', w', h1, ?_, ⟨h3.os, h3.tape, h3.output, h3.size, fun k hk => h3.block k (by omega) (fun e => by have := (World.ownsRow.lt h k e.symm).1; omega)⟩⟩
  unfold OwnB
  rw [byteCells_append, List.length_append, hl]
  exact h2
 ·obtain ⟨v', w', h1, h2, h3⟩ := run_append_arg_grows (P := P) w t ty e i (.int .u8 0) 1 1 ht hi hz hz1 hz2 rfl (by decide) b bs.length bs.length (byteCells bs) (by rw [length_byteCells, Nat.mul_one]) hcells ad m c (byteCells ys) (by rw [length_byteCells, hl, Nat.mul_one]) hc (by omega) (by unfold maxLen; omega) (by omega)
  refine ⟨v', w', h1, ?_, ⟨h3.os, h3.tape, h3.output, h3.size, fun k hk => h3.block k (by omega) (by simp)⟩⟩
  unfold OwnB
  rw [byteCells_append, List.length_append, hl]
  exact World.ownsRow.mono h2 hB
theorem run_append_out_str (w : World) (t u ty e : TypeId) (ht : P.underlying t = some (.slice e)) (hu : P.underlying u = some .string) (hinfo : (P.info? e).map (fun i => (i.zero, i.size, i.bytes)) = some (some (.int .u8 0), 1, 1))
  (B : Nat) (hB : B ≤ w.heap.size) (v : Value) (bs : List UInt8) (hout : OutV w B e v bs) (ys : List UInt8) (hm : 1 ≤ ys.length) (hlen : bs.length + ys.length ≤ 140737488355328) :
  ∃ v' w', (Builtin.append_ #[t, u] ty #[v, .string ⟨ys.toArray⟩]).run P w = .ok v' w' ∧ OwnB w' B e v' (bs ++ ys) ∧ Below B w w' := by
 obtain ⟨i, hi, hz, hz1, hz2⟩ := info_parts hinfo
 have hsz := size_mk ys
 have hstr : Lib.strCells ⟨ys.toArray⟩ = byteCells ys := by simp [Lib.strCells, byteCells]
 rcases hout with h | ⟨b, rfl, hcells⟩
 ·obtain ⟨v', w', h1, h2, h3, _⟩ := Lib.run_append_own_string (P := P) w B t u ty e i ht hu hi hz hz1 hz2 v bs.length (byteCells bs) h ⟨ys.toArray⟩ (by unfold maxLen; omega) (by omega) hB
  refine ⟨v', w', h1, ?_, ⟨h3.os, h3.tape, h3.output, h3.size, fun k hk => h3.block k (by omega) (fun e => by have := (World.ownsRow.lt h k e.symm).1; omega)⟩⟩
  unfold OwnB
  rw [byteCells_append, List.length_append, ← hsz, ← hstr]
  exact h2
 ·have hr := Lib.run_append_grow_string (P := P) w t u ty e i (.int .u8 0) ht hu hi hz b bs.length bs.length (byteCells bs) (by rw [length_byteCells, hz1, Nat.mul_one]) hcells ⟨ys.toArray⟩ (by omega) (by omega) (by rw [hz2]; exact growslice_fits (by omega) (by omega))
  have hge := grownCap_ge w (bs.length + (⟨ys.toArray⟩ : ByteArray).size) bs.length e
  have hcm := grownCap_le_maxLen w (bs.length + (⟨ys.toArray⟩ : ByteArray).size) bs.length e (by unfold maxLen; omega)
  refine ⟨_, _, hr, ?_, ⟨rfl, rfl, rfl, by simp, fun k hk => Below.heap_alloc w.drew _ k (by show k < w.heap.size; omega)⟩⟩
  rw [hsz] at hge hcm ⊢
  rw [hstr]
  have hlb : (byteCells (bs ++ ys)).length = (bs ++ ys).length := length_byteCells _
  refine ⟨by rw [hlb, Nat.mul_one], .inr ⟨w.heap.size, _, _, by rw [List.length_append], hB, heap_alloc_new w.drew _, by rw [List.length_append]; exact hge, hcm, ?_, ?_⟩⟩
  ·have hz1 : (Value.int IntKind.u8 0).cells.size = 1 := rfl
   simp only [Array.size_append, List.size_toArray, size_zeroCells, hz1, length_byteCells]
   omega
  ·simp only [Array.toList_append, List.append_assoc]
   rw [← List.append_assoc, ← byteCells_append, Nat.mul_one, ← hlb]
   exact List.take_left

theorem step_append_out (w : World) (hgd : o.guard = none) (s x : Operand) (t : TypeId)
  (ho : o.op = .call { callee := .builtin .append, args := #[s, x], argTypes := #[t, t] }) (e : TypeId) (ht : P.underlying t = some (.slice e)) (hinfo : (P.info? e).map (fun i => (i.zero, i.size, i.bytes)) = some (some (.int .u8 0), 1, 1))
  (B : Nat) (hB : B ≤ w.heap.size) (v : Value) (bs : List UInt8) (hs : a.eval s = v) (hout : OutV w B e v bs) (ad : Addr) (m c : Nat) (ys : List UInt8) (hx : a.eval x = .slice (some ad) m c) (hl : ys.length = m) (hm : 1 ≤ m)
  (hc : ∀ j u, (byteCells ys)[j]? = some u → w.cell? (ad.add j) = some u) (hlen : bs.length + m ≤ 140737488355328)
  (h : ∀ v' w', OwnB w' B e v' (bs ++ ys) → Below B w w' → K (a.put o.dst v') w') : if Region.wanted o (yielded ops a.tmps) = true then o.wp P a w K Q else E := by
 have hw : Region.wanted o (yielded ops a.tmps) = true := by simp [Region.wanted, hgd]
 rw [if_pos hw]
 obtain ⟨v', w', hr, h2, h3⟩ := run_append_out (P := P) w t o.type e ht hinfo B hB v bs hout ad m c ys hl hm hc hlen
 unfold Oper.wp execOp
 simp only [ho, resolve, invoke, builtin, Sem.run_bind, Sem.run_pure, Result.andThen_ok, List.map_toArray, List.map_cons, List.map_nil, hs, hx, hr]
 exact h v' w' h2 h3
theorem wpList_append_out_str (w : World) (hgd : o.guard = none) (s x : Operand) (t u : TypeId)
  (ho : o.op = .call { callee := .builtin .append, args := #[s, x], argTypes := #[t, u] }) (e : TypeId) (ht : P.underlying t = some (.slice e)) (hu : P.underlying u = some .string) (hinfo : (P.info? e).map (fun i => (i.zero, i.size, i.bytes)) = some (some (.int .u8 0), 1, 1))
  (B : Nat) (hB : B ≤ w.heap.size) (v : Value) (bs : List UInt8) (hs : a.eval s = v) (hout : OutV w B e v bs) (ys : List UInt8) (hx : a.eval x = .string ⟨ys.toArray⟩) (hm : 1 ≤ ys.length) (hlen : bs.length + ys.length ≤ 140737488355328)
  (h : ∀ v' w', OwnB w' B e v' (bs ++ ys) → Below B w w' → wpList P ops Q rest (a.put o.dst v') w') : wpList P ops Q (o :: rest) a w := by
 refine wpList_plain hgd fun K hK => ?_
 obtain ⟨v', w', hr, h2, h3⟩ := run_append_out_str (P := P) w t u o.type e ht hu hinfo B hB v bs hout ys hm hlen
 unfold Oper.wp execOp
 simp only [ho, resolve, invoke, builtin, Sem.run_bind, Sem.run_pure, Result.andThen_ok, List.map_toArray, List.map_cons, List.map_nil, hs, hx, hr]
 exact hK _ _ (h v' w' h2 h3)
theorem wpList_string_out (w : World) (hw : Region.wanted o (yielded ops a.tmps) = true) (x : Operand) (src dst e : TypeId) (ho : o.op = .convert src dst x)
  (hs : P.underlying src = some (.slice e)) (he : P.underlying e = some (.int .u8)) (hd : P.underlying dst = some .string) (B : Nat)
  (v : Value) (bs : List UInt8) (hx : a.eval x = v) (hv : OutV w B e v bs)
  (h : wpList P ops Q rest (a.put o.dst (.string ⟨bs.toArray⟩)) w) : wpList P ops Q (o :: rest) a w := by
 rcases hv with h1 | ⟨ad, rfl, hc⟩
 ·obtain ⟨g, hg, _⟩ := h1.view
  exact wpList_string_view w hw x src dst e ho hs he hd g v bs hx hg h
 ·refine wpList_wanted hw fun K hK => ?_
  have hrun : (convert src dst (.slice (some ad) bs.length bs.length)).run P w = .ok (.string ⟨bs.toArray⟩) w :=
   run_convert_bytes_back w src dst e ad _ bs hs he hd (fun j hj => hc j _ (by simp [byteCells, hj]))
  unfold Oper.wp
  simp [execOp, ho, hx, hrun, Result.andThen]
  exact hK _ _ h

theorem view_from {w : World} {g : Nat} {v : Value} {bs : List UInt8} (hv : View w g v bs) (t e : TypeId) (ht : P.underlying t = some (.slice e)) (hinfo : (P.info? e).map (fun i => (i.zero, i.size, i.bytes)) = some (some (.int .u8 0), 1, 1))
  (k : IntKind) (l : Int) (n : Nat) (hl : l = (n : Int)) (hn : n ≤ bs.length) : ∃ v', (∀ W, (Instr.slice t v (some (.int k l)) none none).run P W = .ok v' W) ∧ View w g v' (bs.drop n) := by
 subst hl
 obtain ⟨ao, cap, rfl, h3, h4, hn0, off, h5, h6⟩ := hv
 obtain ⟨inf, hi1, hz, hz1, hz2⟩ := info_parts hinfo
 have hlen : (bs.drop n).length = bs.length - n := by simp
 refine ⟨sliced ao n bs.length cap 1, fun W => ?_, ?_⟩
 ·have hs : P.underlying t = some (.slice (P.elem t)) := by simp [Program.elem, ht]
  have he : P.elem t = e := by simp [Program.elem, ht]
  have hsz : (sizeOf (P.elem t)).run P W = .ok 1 W := by simp [sizeOf, typeInfo, he, hi1, hz1]
  rw [run_slice_l W t ao bs.length cap hs k (n : Int) (by omega) (by omega), hsz]
  simp [Result.andThen]
 ·refine ⟨_, _, by rw [hlen]; rfl, by omega, by omega, by intro he; cases ao with
   | none => have := hn0 rfl; omega
   | some ad => split at he <;> simp at he, off + n, ?_, ?_⟩
  ·intro hne
   have : bs.length - n ≠ 0 := by intro e; apply hne; exact List.eq_nil_of_length_eq_zero (by omega)
   have hbs : bs ≠ [] := by intro e; subst e; simp at hne
   rw [if_neg (by omega), h5 hbs]
   simp [Addr.add_lit]
  ·intro j hj
   rw [hlen] at hj
   have e1 : off + n + j = off + (n + j) := by omega
   rw [e1, h6 (n + j) (by omega)]
   simp
theorem view_upto {w : World} {g : Nat} {v : Value} {bs : List UInt8} (hv : View w g v bs) (t e : TypeId) (ht : P.underlying t = some (.slice e)) (hinfo : (P.info? e).map (fun i => (i.zero, i.size, i.bytes)) = some (some (.int .u8 0), 1, 1))
  (k : IntKind) (l : Int) (n : Nat) (hl : l = (n : Int)) (hn : n ≤ bs.length) : ∃ ao cp, (∀ W, (Instr.slice t v none (some (.int k l)) none).run P W = .ok (.slice ao n cp) W) ∧ View w g (.slice ao n cp) (bs.take n) := by
 subst hl
 obtain ⟨ao, cap, rfl, h3, h4, hn0, off, h5, h6⟩ := hv
 obtain ⟨inf, hi1, hz, hz1, hz2⟩ := info_parts hinfo
 refine ⟨if cap = 0 then ao else ao.map (·.add (0 * 1)), cap, fun W => ?_, ?_⟩
 ·have hs : P.underlying t = some (.slice (P.elem t)) := by simp [Program.elem, ht]
  have he : P.elem t = e := by simp [Program.elem, ht]
  have hsz : (sizeOf (P.elem t)).run P W = .ok 1 W := by simp [sizeOf, typeInfo, he, hi1, hz1]
  rw [run_slice_h W t ao bs.length cap hs k (n : Int) (by omega) (by omega), hsz]
  rfl
 ·refine ⟨_, _, by rw [List.length_take, Nat.min_eq_left hn], by simp; omega, h4, ?_, off, fun hne => ?_, fun j hj => ?_⟩
  ·intro he
   split at he
   ·assumption
   ·cases ao with
    | none => exact hn0 rfl
    | some ad => simp at he
  ·have hbs : bs ≠ [] := fun e => hne (by rw [e]; simp)
   rw [h5 hbs]
   split
   ·rfl
   ·simp [Addr.add_lit]
  ·simp only [List.length_take] at hj
   rw [h6 j (by omega)]
   simp
theorem view_full {w : World} {g B : Nat} {v : Value} {bs : List UInt8} (hv : View w g v bs) (t e : TypeId) (ht : P.underlying t = some (.slice e)) (hinfo : (P.info? e).map (fun i => (i.zero, i.size, i.bytes)) = some (some (.int .u8 0), 1, 1))
  (k k' : IntKind) (n : Nat) (hn : n ≤ bs.length) : ∃ v', (∀ W, (Instr.slice t v none (some (.int k (n : Int))) (some (.int k' (n : Int)))).run P W = .ok v' W) ∧ OutV w B e v' (bs.take n) := by
 obtain ⟨ao, cap, rfl, h3, h4, hn0, off, h5, h6⟩ := hv
 obtain ⟨inf, hi1, hz, hz1, hz2⟩ := info_parts hinfo
 have hlen : (bs.take n).length = n := by simp; omega
 refine ⟨.slice (if n = 0 then ao else ao.map (·.add (0 * 1))) n n, fun W => ?_, ?_⟩
 ·have hs : P.underlying t = some (.slice (P.elem t)) := by simp [Program.elem, ht]
  have he : P.elem t = e := by simp [Program.elem, ht]
  have hsz : (sizeOf (P.elem t)).run P W = .ok 1 W := by simp [sizeOf, typeInfo, he, hi1, hz1]
  rw [run_slice_hm W t ao bs.length cap hs k k' (n : Int) (n : Int) (by omega) (by omega) (by omega), hsz]
  rfl
 ·by_cases h0 : n = 0
  ·subst h0
   rw [if_pos rfl]
   cases ao with
   | none => exact .inl (OwnB.nil w B e)
   | some ad => exact .inr ⟨ad, rfl, fun j u hu => by simp [byteCells] at hu⟩
  ·rw [if_neg h0]
   have hb : bs ≠ [] := by intro e; subst e; simp at hn; exact h0 hn
   have := h5 hb
   subst this
   refine .inr ⟨⟨g, off, none⟩, by rw [hlen]; simp [Addr.add_lit], fun j u hu => ?_⟩
   have hj : j < (bs.take n).length := by have := (List.getElem?_eq_some_iff.1 hu).1; simpa [byteCells] using this
   rw [hlen] at hj
   rw [Addr.add_lit, h6 j (by omega), ← hu]
   simp [byteCells, hj, List.getElem?_eq_getElem (show j < bs.length by omega)]
end
end Go.Proofs.YtgdnpnipahegaaaGreatDoor
