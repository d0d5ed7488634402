/-
 The package's reader of the text form, walked: the other closing byte.
-/
import Derived.Test.YtgdnpnipahegaaaGreatDoorJE
import Derived.Maps.Own
import Derived.Test.YtgdnpnipahegaaaGreatDoorTRun
import Derived.Test.YtgdnpnipahegaaaGreatDoorTSwitch
import Derived.Test.YtgdnpnipahegaaaGreatDoorSym

namespace Go.Proofs.YtgdnpnipahegaaaGreatDoor
open Go.ChangeShapes Go.WideShapes Go.ChangeAt Go.RowKit Go.Maps

theorem u8_keyed : Keyed Tryz.prog 5 := int_keyed Tryz.underlying5
theorem u8_zero (w : World) : (zeroValue 5).run Tryz.prog w = .ok (.int .u8 0) w := by kernel_rfl
theorem Has.enter0 {M : Nat} : Has M [] { tmps := #[] ++ Array.replicate (M - (#[] : Array Value).size) undef, defers := [] } [] where
 size := by simp
 defers := rfl
 get := fun k u h => by cases h
abbrev otherD : DataW Unit := ((DataW.map []).put (.int .u8 125) (.lit (.int .u8 62))).put (.int .u8 62) (.lit (.int .u8 125))
set_option maxRecDepth 100000 in
theorem y_insert {N : Nat} {D : List Deferred} {a : Act} {l : List (Nat × Value)} {L rest : List Oper} {Q : Exit → Act → World → Prop} {w : World} {ty : TypeId} {pos : String} {af : Array Edge} {m x y : Operand} {b n k u : Nat} {d : DataW Unit} (H : Has N D a l)
  (hm : ev l m = some (.map (some b))) (hx : ev l x = some (.int .u8 (k : Int))) (hy : ev l y = some (.int .u8 (u : Int))) (hk : (Lit.int .u8 (k : Int)).wf = true) (hu : (Lit.int .u8 (u : Int)).wf = true) (hown : w.ownsMap Tryz.prog 5 (plainElem Tryz.prog 5) b n d) (hn : n < maxLen)
  (h : ∀ w', w'.ownsMap Tryz.prog 5 (plainElem Tryz.prog 5) b (n + 1) (d.put (.int .u8 (k : Int)) (.lit (.int .u8 (u : Int)))) → w.grownBy w' (some b) → ∀ a, Has N D a l → wpList Tryz.prog L.toArray Q rest a w') :
  wpList Tryz.prog L.toArray Q (⟨none, .insert 72 m x y, ty, pos, af, none⟩ :: rest) a w := by
 refine wpList_plain rfl fun K hK => ?_
 have h1 := H.ev hm
 have h2 := H.ev hx
 have h3 := H.ev hy
 obtain ⟨w', hrun, r1, r2⟩ := hown.update u8_keyed Tryz.underlying72 hn (keyOf_int_mk Tryz.underlying5 hk) (plainElem_int Tryz.underlying5 hu)
 unfold Oper.wp
 simp only [execOp, h1, h2, h3, hrun, Result.andThen, Sem.run_bind]
 exact hK _ _ (h w' r1 r2 _ H)
theorem y_makeMap {N : Nat} {D : List Deferred} {a : Act} {l : List (Nat × Value)} {L rest : List Oper} {Q : Exit → Act → World → Prop} {w : World} {d : Nat} {ty : TypeId} {pos : String} {af : Array Edge} {t : TypeId} (H : Has N D a l) (hd : Nat.blt d N = true)
  (h : ∀ a, Has N D a ((d, .map (some w.heap.size)) :: l) → wpList Tryz.prog L.toArray Q rest a (w.alloc (.map #[] 0))) : wpList Tryz.prog L.toArray Q (⟨some d, .makeMap t none, ty, pos, af, none⟩ :: rest) a w :=
 y_wp H hd (by simp [execOp, run_makeMap, Result.andThen]) h
theorem otherT_at {k c : Nat} (hk : k = 125 ∨ k = 62) (hat : otherD.atKey (.int .u8 (k : Int)) (.lit (.int .u8 0)) = .lit (.int .u8 (c : Int))) : c = otherT k := by
 rcases hk with rfl | rfl
 ·have : otherD.atKey (.int .u8 ((125 : Nat) : Int)) (.lit (.int .u8 0)) = .lit (.int .u8 (((62 : Nat)) : Int)) := by rfl
  rw [this] at hat
  injection hat with hat
  injection hat with _ hat
  show c = 62
  omega
 ·have : otherD.atKey (.int .u8 ((62 : Nat) : Int)) (.lit (.int .u8 0)) = .lit (.int .u8 (((125 : Nat)) : Int)) := by rfl
  rw [this] at hat
  injection hat with hat
  injection hat with _ hat
  show c = 125
  omega
set_option maxRecDepth 100000 in
theorem other_any (w : World) :
  Calls Tryz.prog 46 #[] w fun e w' => ∃ b, e = .returned (.map (some b)) ∧ (∀ k : Nat, k = 125 ∨ k = 62 → (Instr.lookup 72 (.map (some b)) (.int .u8 (k : Int)) false).run Tryz.prog w' = .ok (.int .u8 (otherT k : Int)) w') ∧ Below w.heap.size w w' := by
 refine calls_of_wp (fn := Tryz.f46) Tryz.func46 rfl ?_
 have H := Has.enter0 (M := 3)
 show Code.wp _ _ _ { tmps := #[] ++ Array.replicate (3 - (#[] : Array Value).size) undef, defers := [] } _
 generalize ({ tmps := #[] ++ Array.replicate (3 - (#[] : Array Value).size) undef, defers := [] } : Act) = a at H ⊢
 refine y_seq fun K1 hK1 => ?_
 refine y_reg ?_
 refine y_assign H rfl rfl fun a H => wpList_nil (then_normal (hK1 _ _ ?_))
 refine y_seq fun K2 hK2 => ?_
 refine y_reg ?_
 refine y_makeMap H rfl fun a H => ?_
 have ho := World.ownsMap_made w Tryz.prog 5 (plainElem (H := Unit) Tryz.prog 5)
 have hb := (Below.refl w.heap.size w).alloc (Nat.le_refl _) (.map #[] 0)
 refine y_insert (k := 125) (u := 62) H rfl rfl rfl rfl rfl ho (by decide) fun w1 ho1 hg1 a H => ?_
 refine y_insert (k := 62) (u := 125) H rfl rfl rfl rfl rfl ho1 (by decide) fun w2 ho2 hg2 a H => ?_
 refine y_move H rfl rfl fun a H => y_assign H rfl rfl fun a H => wpList_nil (then_normal (hK2 _ _ ?_))
 refine wp_ret ?_
 have h0 := H.get 0 _ rfl
 refine bodyPost_ret (results_tmp rfl _ _ _) H.defers ?_
 have hl : (w.alloc (.map #[] 0)).heap.size = w.heap.size + 1 := by simp
 refine ⟨w.heap.size, by simp [h0], fun k hk => ?_, hb.trans ((below_of_grown hg1 (Nat.le_refl _) (by omega)).trans (below_of_grown hg2 (Nat.le_refl _) (by have := hg1.size; omega)))⟩
 obtain ⟨c, hrun, hat, hw⟩ := ho2.lookup_int u8_keyed Tryz.underlying72 Tryz.underlying5 (u8_zero _) (key := .int .u8 (k : Int)) (kl := .int .u8 (k : Int)) (keyOf_int_mk Tryz.underlying5 (by rcases hk with rfl | rfl <;> rfl))
 obtain ⟨n, rfl⟩ : ∃ n : Nat, c = (n : Int) := ⟨c.toNat, by have hw9 : (decide ((0 : Int) ≤ c) && decide (c ≤ 255)) = true := hw; have := of_decide_eq_true (Bool.and_eq_true_iff.1 hw9).1; omega⟩
 rw [hrun, otherT_at hk hat]
end Go.Proofs.YtgdnpnipahegaaaGreatDoor

namespace Go.Proofs.YtgdnpnipahegaaaGreatDoor

section
variable {bs r st : List UInt8} {k : Nat} {c : UInt8}
theorem top_nil (b : Bool) (h : bs.drop k = []) : inTop bs b st k = withSt st (some (tokT bs k 1 0 0)) := by unfold inTop; rw [h]
theorem top_comma (h : bs.drop k = c :: r) (hc : c.toNat = 44) : inTop bs true st k = withSt st (some (tokT bs k 8 1 0)) := by unfold inTop; rw [h]; simp only; rw [if_pos ⟨trivial, hc⟩]
theorem top_semi (h : bs.drop k = c :: r) (hc : c.toNat = 59) : inTop bs true st k = withSt st (some (tokT bs k 9 1 0)) := by unfold inTop; rw [h]; simp only; rw [if_neg (fun e => by omega), if_pos ⟨trivial, hc⟩]
theorem top_field (b : Bool) (h : bs.drop k = c :: r) (hc : b = false ∨ (c.toNat ≠ 44 ∧ c.toNat ≠ 59)) : inTop bs b st k = withSt st (fieldT bs k) := by
 unfold inTop; rw [h]; simp only
 rw [if_neg (fun e => by rcases hc with h1 | h1; rw [h1] at e; exact absurd e.1 (by decide); exact h1.1 e.2), if_neg (fun e => by rcases hc with h1 | h1; rw [h1] at e; exact absurd e.1 (by decide); exact h1.2 e.2)]
theorem msg_nil (b : Bool) (h : bs.drop k = []) : inMsg bs b st k = none := by unfold inMsg; rw [h]
theorem msg_close (b : Bool) (h : bs.drop k = c :: r) (hc : c.toNat = closeT st) : inMsg bs b st k = withSt st.dropLast (some (tokT bs k 5 1 0)) := by unfold inMsg; rw [h]; simp only; rw [if_pos hc]
theorem msg_other (b : Bool) (h : bs.drop k = c :: r) (h1 : c.toNat ≠ closeT st) (h2 : c.toNat = otherT (closeT st)) : inMsg bs b st k = none := by unfold inMsg; rw [h]; simp only; rw [if_neg h1, if_pos h2]
theorem msg_comma (h : bs.drop k = c :: r) (h1 : c.toNat ≠ closeT st) (h2 : c.toNat ≠ otherT (closeT st)) (hc : c.toNat = 44) : inMsg bs true st k = withSt st (some (tokT bs k 8 1 0)) := by unfold inMsg; rw [h]; simp only; rw [if_neg h1, if_neg h2, if_pos ⟨trivial, hc⟩]
theorem msg_semi (h : bs.drop k = c :: r) (h1 : c.toNat ≠ closeT st) (h2 : c.toNat ≠ otherT (closeT st)) (hc : c.toNat = 59) : inMsg bs true st k = withSt st (some (tokT bs k 9 1 0)) := by unfold inMsg; rw [h]; simp only; rw [if_neg h1, if_neg h2, if_neg (fun e => by omega), if_pos ⟨trivial, hc⟩]
theorem msg_field (b : Bool) (h : bs.drop k = c :: r) (h1 : c.toNat ≠ closeT st) (h2 : c.toNat ≠ otherT (closeT st)) (hc : b = false ∨ (c.toNat ≠ 44 ∧ c.toNat ≠ 59)) : inMsg bs b st k = withSt st (fieldT bs k) := by
 unfold inMsg; rw [h]; simp only
 rw [if_neg h1, if_neg h2, if_neg (fun e => by rcases hc with h1 | h1; rw [h1] at e; exact absurd e.1 (by decide); exact h1.1 e.2), if_neg (fun e => by rcases hc with h1 | h1; rw [h1] at e; exact absurd e.1 (by decide); exact h1.2 e.2)]
theorem list_nil (h : bs.drop k = []) : inList bs st k = none := by unfold inList; rw [h]
theorem list_close (h : bs.drop k = c :: r) (hc : c.toNat = 93) : inList bs st k = withSt st.dropLast (some (tokT bs k 7 1 0)) := by unfold inList; rw [h]; simp only; rw [if_pos hc]
theorem list_comma (h : bs.drop k = c :: r) (hc : c.toNat = 44) : inList bs st k = withSt st (some (tokT bs k 8 1 0)) := by unfold inList; rw [h]; simp only; rw [if_neg (by omega), if_pos hc]
theorem list_bad (h : bs.drop k = c :: r) (h1 : c.toNat ≠ 93) (h2 : c.toNat ≠ 44) : inList bs st k = none := by unfold inList; rw [h]; simp only; rw [if_neg h1, if_neg h2]
theorem val_nil (l b : Bool) (h : bs.drop k = []) : value1 bs l b st k = none := by unfold value1; rw [h]
theorem val_open (l b : Bool) (h : bs.drop k = c :: r) (hc : c.toNat = 123 ∨ c.toNat = 60) : value1 bs l b st k = withSt (st ++ [c]) (some (tokT bs k 4 1 0)) := by unfold value1; rw [h]; simp only; rw [if_pos hc]
theorem val_list (b : Bool) (h : bs.drop k = c :: r) (hc : c.toNat = 91) : value1 bs true b st k = withSt (st ++ [c]) (some (tokT bs k 6 1 0)) := by unfold value1; rw [h]; simp only; rw [if_neg (by omega), if_pos ⟨trivial, hc⟩]
theorem val_close (h : bs.drop k = c :: r) (hc : c.toNat = 93) : value1 bs false true st k = withSt st.dropLast (some (tokT bs k 7 1 0)) := by unfold value1; rw [h]; simp only; rw [if_neg (by omega), if_neg (fun e => by cases e.1), if_pos ⟨trivial, hc⟩]
theorem val_scalar (l b : Bool) (h : bs.drop k = c :: r) (h1 : c.toNat ≠ 123 ∧ c.toNat ≠ 60) (h2 : l = false ∨ c.toNat ≠ 91) (h3 : b = false ∨ c.toNat ≠ 93) : value1 bs l b st k = withSt st (scalarT bs k) := by
 unfold value1; rw [h]; simp only
 rw [if_neg (by omega), if_neg (fun e => by rcases h2 with h4 | h4; rw [h4] at e; exact absurd e.1 (by decide); exact h4 e.2), if_neg (fun e => by rcases h3 with h4 | h4; rw [h4] at e; exact absurd e.1 (by decide); exact h4 e.2)]
end
def nextB (bs : List UInt8) (last : Nat) (st : List UInt8) (k : Nat) : Option (TT × List UInt8 × Nat) :=
 if last = 1 then withSt st (some (tokT bs k 1 0 0))
 else if last = 0 then inTop bs false st k
 else if last = 2 then value1 bs true false st k
 else if last = 4 then inMsg bs false st k
 else if last = 6 then value1 bs false true st k
 else if last = 8 ∨ last = 9 then (if openK st = 0 then inTop bs false st k else if openK st = 4 then inMsg bs false st k else value1 bs false false st k)
 else (if openK st = 0 then inTop bs true st k else if openK st = 4 then inMsg bs true st k else inList bs st k)
theorem nextB_eq (bs : List UInt8) (last : Nat) (st : List UInt8) (k : Nat) : nextT bs last st k = nextB bs last st (goT bs k 0) := rfl
section
variable {bs st : List UInt8} {k last : Nat}
theorem nextB_eof (h : last = 1) : nextB bs last st k = withSt st (some (tokT bs k 1 0 0)) := by unfold nextB; rw [if_pos h]
theorem nextB_top0 (h : last = 0) : nextB bs last st k = inTop bs false st k := by unfold nextB; rw [if_neg (by omega), if_pos h]
theorem nextB_val2 (h : last = 2) : nextB bs last st k = value1 bs true false st k := by unfold nextB; rw [if_neg (by omega), if_neg (by omega), if_pos h]
theorem nextB_msg4 (h : last = 4) : nextB bs last st k = inMsg bs false st k := by unfold nextB; rw [if_neg (by omega), if_neg (by omega), if_neg (by omega), if_pos h]
theorem nextB_val6 (h : last = 6) : nextB bs last st k = value1 bs false true st k := by unfold nextB; rw [if_neg (by omega), if_neg (by omega), if_neg (by omega), if_neg (by omega), if_pos h]
theorem nextB_top8 (h : last = 8 ∨ last = 9) (ho : openK st = 0) : nextB bs last st k = inTop bs false st k := by unfold nextB; rw [if_neg (by omega), if_neg (by omega), if_neg (by omega), if_neg (by omega), if_neg (by omega), if_pos h, if_pos ho]
theorem nextB_msg8 (h : last = 8 ∨ last = 9) (ho : openK st = 4) : nextB bs last st k = inMsg bs false st k := by unfold nextB; rw [if_neg (by omega), if_neg (by omega), if_neg (by omega), if_neg (by omega), if_neg (by omega), if_pos h, if_neg (by omega), if_pos ho]
theorem nextB_val8 (h : last = 8 ∨ last = 9) (ho : openK st = 6) : nextB bs last st k = value1 bs false false st k := by unfold nextB; rw [if_neg (by omega), if_neg (by omega), if_neg (by omega), if_neg (by omega), if_neg (by omega), if_pos h, if_neg (by omega), if_neg (by omega)]
theorem nextB_top3 (h : last = 3 ∨ last = 5 ∨ last = 7) (ho : openK st = 0) : nextB bs last st k = inTop bs true st k := by unfold nextB; rw [if_neg (by omega), if_neg (by omega), if_neg (by omega), if_neg (by omega), if_neg (by omega), if_neg (by omega), if_pos ho]
theorem nextB_msg3 (h : last = 3 ∨ last = 5 ∨ last = 7) (ho : openK st = 4) : nextB bs last st k = inMsg bs true st k := by unfold nextB; rw [if_neg (by omega), if_neg (by omega), if_neg (by omega), if_neg (by omega), if_neg (by omega), if_neg (by omega), if_neg (by omega), if_pos ho]
theorem nextB_list3 (h : last = 3 ∨ last = 5 ∨ last = 7) (ho : openK st = 6) : nextB bs last st k = inList bs st k := by unfold nextB; rw [if_neg (by omega), if_neg (by omega), if_neg (by omega), if_neg (by omega), if_neg (by omega), if_neg (by omega), if_neg (by omega), if_neg (by omega)]
theorem open_close (st : List UInt8) : (openK st = 0 ∧ closeT st = 0) ∨ (openK st = 4 ∧ closeT st = 125) ∨ (openK st = 4 ∧ closeT st = 62) ∨ (openK st = 6 ∧ closeT st = 93) := by
 unfold openK closeT
 cases st.getLast? with
 | none => exact .inl ⟨rfl, rfl⟩
 | some c =>
  simp only
  by_cases h : c.toNat = 91
  ·rw [if_pos h, if_pos h]; exact .inr (.inr (.inr ⟨rfl, rfl⟩))
  ·rw [if_neg h, if_neg h]
   by_cases h2 : c.toNat = 123
   ·rw [if_pos h2]; exact .inr (.inl ⟨rfl, rfl⟩)
   ·rw [if_neg h2]; exact .inr (.inr (.inl ⟨rfl, rfl⟩))
theorem open_ne (h : openK st ≠ 0) : st ≠ [] := fun e => h (by rw [e]; try rfl)
end
structure DOk (s : DT) : Prop where
 st : StOk s.st
 two : ∀ pre, s.st = pre ++ [91] → openK pre ≠ 6
 le : s.tok.kind ≤ 9
 len : s.st.length ≤ s.k
 own : s.tok.kind = 0 ∨ s.tok.kind = 1 ∨ (s.tok.kind = 2 ∧ openK s.st ≠ 6) ∨ s.tok.kind = 3 ∨ (s.tok.kind = 4 ∧ openK s.st = 4) ∨ s.tok.kind = 5 ∨ (s.tok.kind = 6 ∧ openK s.st = 6) ∨ (s.tok.kind = 7 ∧ openK s.st ≠ 6) ∨ s.tok.kind = 8 ∨ (s.tok.kind = 9 ∧ openK s.st ≠ 6)
end Go.Proofs.YtgdnpnipahegaaaGreatDoor
