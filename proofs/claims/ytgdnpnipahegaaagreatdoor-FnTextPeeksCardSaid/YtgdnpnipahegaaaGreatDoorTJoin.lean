/-
 Strings that a call collects itself, and their joining; over the package's reader.
-/
import Derived.Test.YtgdnpnipahegaaaGreatDoorJE
import Derived.Test.YtgdnpnipahegaaaGreatDoorTString
import Derived.Test.YtgdnpnipahegaaaGreatDoorShelfQ
namespace Go.Proofs.YtgdnpnipahegaaaGreatDoor
open Go.ChangeShapes Go.WideShapes Go.ChangeAt Go.RowKit

theorem flat_join (xs : List (List UInt8)) : Lib.join xs [] = xs.flatten := by
 cases xs with
 | nil => rfl
 | cons x r =>
  rw [Lib.join_cons]
  unfold Lib.joinTail
  simp
def strVs (xs : List (List UInt8)) : List Value := xs.map fun x => .string ⟨x.toArray⟩
def OwnS (w : World) (B : Nat) (v : Value) (xs : List (List UInt8)) : Prop := w.ownsRow B 9 1 v xs.length (strVs xs)
theorem OwnS.nil (w : World) (B : Nat) : OwnS w B (.slice none 0 0) [] := World.ownsRow_nil _ _ _ _
theorem OwnS.below {w w' : World} {B : Nat} {v : Value} {xs : List (List UInt8)} (h : OwnS w B v xs) (hb : Below w.heap.size w w') : OwnS w' B v xs :=
 World.ownsRow.kept h (row := none) ⟨hb.os, hb.tape, hb.output, hb.size, fun k hk _ => hb.block k hk⟩ (by cases v.ownBlock <;> simp)
theorem OwnS.grown {w w' : World} {B q : Nat} {v : Value} {xs : List (List UInt8)} (h : OwnS w B v xs) (hg : w.grownBy w' (some q)) (hq : q < B) : OwnS w' B v xs :=
 World.ownsRow.kept h hg (.inr fun e => by have := (World.ownsRow.lt h _ e).1; omega)
theorem join_any (w : World) (B : Nat) (v : Value) (xs : List (List UInt8)) (h : OwnS w B v xs) (hn : xs.length ≤ 100000000) (hl : xs.flatten.length ≤ 100000000) :
  Calls Tryz.prog 73 #[v, .string ⟨#[]⟩] w fun e w' => e = .returned (.string ⟨xs.flatten.toArray⟩) ∧ Below w.heap.size w w' := by
 rcases h.2 with ⟨rfl, h0⟩ | ⟨q, cap, cur, rfl, hB, hq, hnc, hcm, hcs, htk⟩
 ·have : xs = [] := List.eq_nil_of_length_eq_zero h0
  subst this
  exact (Tryz.strings_Join_none none 0 ⟨#[]⟩ w).mono fun e w' ⟨he, hw⟩ => ⟨he, hw ▸ Below.refl _ _⟩
 ·have hc := World.ownsRow.cells h (g := q) rfl
  have := Tryz.strings_Join q 0 cap (xs.map fun x => ⟨x.toArray⟩) ⟨#[]⟩ w (fun j x hx => by
   have := hc j (.string x) (by
    unfold strVs
    rw [List.getElem?_map] at hx ⊢
    rcases hxj : xs[j]? with _ | y
    ·rw [hxj] at hx; cases hx
    ·rw [hxj] at hx
     injection hx with hx
     rw [← hx]
     rfl)
   rwa [Addr.add_lit] at this) (by
    have := (World.ownsRow.lt h q rfl).2
    exact this) (by simp; omega) (by simp; omega) (by
    rw [show (xs.map fun x => (⟨x.toArray⟩ : ByteArray)).map (·.data.toList) = xs by rw [List.map_map]; simp [Function.comp_def]]
    rw [show (ByteArray.mk #[]).data.toList = [] from rfl, flat_join]
    omega)
  rw [show (xs.map fun x => (⟨x.toArray⟩ : ByteArray)).map (·.data.toList) = xs by rw [List.map_map]; simp [Function.comp_def], show (ByteArray.mk #[]).data.toList = [] from rfl, flat_join, List.length_map] at this
  exact this
theorem infoStr : (Tryz.prog.info? 9).map (fun i => (i.zero, i.size, i.bytes)) = some (some (.string ⟨#[]⟩), 1, 16) := by kernel_rfl
section
variable {N : Nat} {D : List Deferred} {a : Act} {l : List (Nat × Value)} {L rest : List Oper} {Q : Exit → Act → World → Prop} {w : World} {d : Nat} {ty : TypeId} {pos : String} {af : Array Edge}
theorem y_strs1 {x : Operand} {s : ByteArray} (H : Has N D a l) (hx : ev l x = some (.string s)) (hd : Nat.blt d N = true)
  (h : ∀ w' q, w'.cell? ⟨q, 0, none⟩ = some (.string s) → Below w.heap.size w w' → ∀ a, Has N D a ((d, .slice (some ⟨q, 0, none⟩) 1 1) :: l) → wpList Tryz.prog L.toArray Q rest a w') : wpList Tryz.prog L.toArray Q (⟨some d, .buildSlice 60 1 #[(0, x)], ty, pos, af, none⟩ :: rest) a w := by
 obtain ⟨inf, hi1, hz, hz1, hz2⟩ : ∃ i, Tryz.prog.info? 9 = some i ∧ i.zero = some (.string ⟨#[]⟩) ∧ i.size = 1 ∧ i.bytes = 16 := by
  have := infoStr
  cases hi : Tryz.prog.info? 9 with
  | none => rw [hi] at this; cases this
  | some i => rw [hi] at this; simp at this; exact ⟨i, rfl, this.1, this.2.1, this.2.2⟩
 have h1 := H.ev hx
 have := run_buildSlice (P := Tryz.prog) w 60 9 1 #[(0, .string s)] #[.string s] inf (.string ⟨#[]⟩) Tryz.underlying60 hi1 hz (by rw [hz1]; decide) (by rw [hz1]; decide) (by rw [hz1]; kernel_rfl)
 refine y_wp H hd (v := .slice (some ⟨w.heap.size, 0, none⟩) 1 1) (w' := w.alloc (.cells #[.string s] 9)) (by simp [execOp, h1, this, Result.andThen]) ?_
 exact h _ _ (rowAt_new (heap_alloc_new w (.cells #[.string s] 9)) 0 _ rfl).1 ((Below.refl _ w).alloc (Nat.le_refl _) _)
set_option maxRecDepth 100000 in
theorem y_appStr {x y : Operand} {B q c : Nat} {v : Value} {xs : List (List UInt8)} {s : List UInt8} (H : Has N D a l) (hx : ev l x = some v) (hown : OwnS w B v xs) (hy : ev l y = some (.slice (some ⟨q, 0, none⟩) 1 c)) (hc : w.cell? ⟨q, 0, none⟩ = some (.string ⟨s.toArray⟩)) (hB : B ≤ w.heap.size) (hlen : xs.length ≤ 100000000) (hd : Nat.blt d N = true)
  (h : ∀ v' w', OwnS w' B v' (xs ++ [s]) → Below B w w' → ∀ a, Has N D a ((d, v') :: l) → wpList Tryz.prog L.toArray Q rest a w') :
  wpList Tryz.prog L.toArray Q (⟨some d, .call { callee := .builtin .append, args := #[x, y], argTypes := #[60, 60] }, ty, pos, af, none⟩ :: rest) a w := by
 obtain ⟨inf, hi1, hz, hz1, hz2⟩ : ∃ i, Tryz.prog.info? 9 = some i ∧ i.zero = some (.string ⟨#[]⟩) ∧ i.size = 1 ∧ i.bytes = 16 := by
  have := infoStr
  cases hi : Tryz.prog.info? 9 with
  | none => rw [hi] at this; cases this
  | some i => rw [hi] at this; simp at this; exact ⟨i, rfl, this.1, this.2.1, this.2.2⟩
 refine wpList_append_lies w rfl x y 60 rfl B 9 inf (.string ⟨#[]⟩) 1 16 Tryz.underlying60 hi1 hz hz1 hz2 rfl (by decide) v xs.length (strVs xs) (H.ev hx) hown ⟨q, 0, none⟩ 1 c [.string ⟨s.toArray⟩] (H.ev hy) rfl (fun j u hj => by
  match j, hj with
  | 0, hj => injection hj with hj; subst hj; rw [Addr.add_lit]; exact hc) (by intro u hu; simp at hu; subst hu; rfl) (by decide) (by unfold maxLen; omega) (by omega) hB _ rfl ?_
 intro gq cap w' hown' hgrow _ _
 refine h _ w' ?_ ?_ _ (H.put hd)
 ·unfold OwnS strVs
  rw [List.length_append, List.map_append]
  exact hown'
 ·exact ⟨hgrow.os, hgrow.tape, hgrow.output, hgrow.size, fun k hk => hgrow.block k (by omega) (fun e => by have := (World.ownsRow.lt hown k e.symm).1; omega)⟩
end
theorem pf_join : PlainFn Tryz.prog 73 := ⟨_, Tryz.func73, by kernel_rfl, by kernel_rfl⟩
theorem pf_pstr : PlainFn Tryz.prog 72 := ⟨_, Tryz.func72, by kernel_rfl, by kernel_rfl⟩
theorem DW.belowN {B p g : Nat} {bs : List UInt8} {vr ve vst vo vi : Value} {s : DT} {w w' : World} {N M : Nat} (h : DW B p g bs vr ve vst vo vi s w) (hp : p < M) (hg : g < M) (hv : ∀ k, vst.ownBlock = some k → k < M) (hM : M ≤ N) (hb : Below N w w') : DW B p g bs vr ve vst vo vi s w' :=
 h.belowAt N (by omega) (by omega) (fun k hk => by have := hv k hk; omega) hb
end Go.Proofs.YtgdnpnipahegaaaGreatDoor
