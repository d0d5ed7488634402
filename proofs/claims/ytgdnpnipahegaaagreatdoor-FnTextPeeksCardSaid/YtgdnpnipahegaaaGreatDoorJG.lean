/-
 The thin package's token of the text form, made of the package's: the laws of the steps.
-/
import Derived.Test.YtgdnpnipahegaaaGreatDoorTReadP
import Derived.Test.YtgdnpnipahegaaaGreatDoorTAcc

namespace Go.Proofs.YtgdnpnipahegaaaGreatDoor
open Go.ChangeShapes Go.WideShapes Go.ChangeAt Go.RowKit

def txCells (t : TT) : List Value := [.int .i64 (t.kind : Int), .int .i64 ((if t.kind = 2 then t.att else 0 : Nat) : Int), .int .i64 (t.pos : Int), .bool (t.sep && decide (t.kind = 2)), .string ⟨t.raw.toArray⟩, .string ⟨(if t.kind = 2 then (if t.att = 2 then t.str else t.raw) else []).toArray⟩]
section
variable {P : Program} {N : Nat} {D : List Deferred} {a : Act} {l : List (Nat × Value)} {L rest : List Oper} {Q : Exit → Act → World → Prop} {S : World → Prop} {w : World} {d id fuel : Nat} {op : Op} {ty : TypeId} {pos : String} {af : Array Edge} {listed : Array Bool}
theorem d_arm (k : Nat) {o : Oper} (hi : L.toArray[k]? = some o) (hg : o.guard = none)
  (h : wpList P L.toArray (Exit.then (fun a' w' => S w' ∧ wpAnyH P .any L.toArray (NoPanic Q) S fuel (listed.setIfInBounds k true) a' w') (NoPanic Q)) [o] a w) :
  wpOp P L.toArray (NoPanic Q) k (fun a' w' => S w' ∧ wpAnyH P .any L.toArray (NoPanic Q) S fuel (listed.setIfInBounds k true) a' w') a w := by
 have hw : Region.wanted o (yielded L.toArray a.tmps) = true := by simp [Region.wanted, hg]
 unfold wpList at h
 rw [if_pos hw] at h
 unfold wpOp
 simp only [hi]
 rw [if_pos hw]
 rcases h with h | ⟨h1, h2⟩
 ·exact .inl (upon_then h)
 ·exact .inr ⟨h1, h2⟩
theorem d_three (i j k : Nat) {o o' o2 : Oper} (hr : Region.ready .any L.toArray listed = [i, j, k]) (hi : L.toArray[i]? = some o) (hj : L.toArray[j]? = some o') (hk : L.toArray[k]? = some o2) (hg : o.guard = none) (hg' : o'.guard = none) (hg2 : o2.guard = none)
  (h : wpList P L.toArray (Exit.then (fun a' w' => S w' ∧ wpAnyH P .any L.toArray (NoPanic Q) S fuel (listed.setIfInBounds i true) a' w') (NoPanic Q)) [o] a w)
  (h' : wpList P L.toArray (Exit.then (fun a' w' => S w' ∧ wpAnyH P .any L.toArray (NoPanic Q) S fuel (listed.setIfInBounds j true) a' w') (NoPanic Q)) [o'] a w)
  (h2 : wpList P L.toArray (Exit.then (fun a' w' => S w' ∧ wpAnyH P .any L.toArray (NoPanic Q) S fuel (listed.setIfInBounds k true) a' w') (NoPanic Q)) [o2] a w) : wpAnyH P .any L.toArray (NoPanic Q) S (fuel + 1) listed a w := by
 refine wpAnyH_all hr (by simp) fun m hm => ?_
 obtain rfl | rfl | rfl : m = i ∨ m = j ∨ m = k := by simpa using hm
 ·exact d_arm _ hi hg h
 ·exact d_arm _ hj hg' h'
 ·exact d_arm _ hk hg2 h2
theorem d_four (i j k n : Nat) {o o' o2 o3 : Oper} (hr : Region.ready .any L.toArray listed = [i, j, k, n]) (hi : L.toArray[i]? = some o) (hj : L.toArray[j]? = some o') (hk : L.toArray[k]? = some o2) (hn : L.toArray[n]? = some o3) (hg : o.guard = none) (hg' : o'.guard = none) (hg2 : o2.guard = none) (hg3 : o3.guard = none)
  (h : wpList P L.toArray (Exit.then (fun a' w' => S w' ∧ wpAnyH P .any L.toArray (NoPanic Q) S fuel (listed.setIfInBounds i true) a' w') (NoPanic Q)) [o] a w)
  (h' : wpList P L.toArray (Exit.then (fun a' w' => S w' ∧ wpAnyH P .any L.toArray (NoPanic Q) S fuel (listed.setIfInBounds j true) a' w') (NoPanic Q)) [o'] a w)
  (h2 : wpList P L.toArray (Exit.then (fun a' w' => S w' ∧ wpAnyH P .any L.toArray (NoPanic Q) S fuel (listed.setIfInBounds k true) a' w') (NoPanic Q)) [o2] a w)
  (h3 : wpList P L.toArray (Exit.then (fun a' w' => S w' ∧ wpAnyH P .any L.toArray (NoPanic Q) S fuel (listed.setIfInBounds n true) a' w') (NoPanic Q)) [o3] a w) : wpAnyH P .any L.toArray (NoPanic Q) S (fuel + 1) listed a w := by
 refine wpAnyH_all hr (by simp) fun m hm => ?_
 obtain rfl | rfl | rfl | rfl : m = i ∨ m = j ∨ m = k ∨ m = n := by simpa using hm
 ·exact d_arm _ hi hg h
 ·exact d_arm _ hj hg' h'
 ·exact d_arm _ hk hg2 h2
 ·exact d_arm _ hn hg3 h3
theorem y_boxAgg {t : TypeId} {x : Operand} {cs : List Value} (H : Has N D a l) (hx : ev l x = some (.agg cs.toArray)) (hd : Nat.blt d N = true)
  (h : ∀ w', RowAt w' w.heap.size cs → Below w.heap.size w w' → w'.heap.size = w.heap.size + 1 → ∀ a, Has N D a ((d, .pointer (some ⟨w.heap.size, 0, none⟩)) :: l) → wpList P L.toArray Q rest a w') : wpList P L.toArray Q (⟨some d, .box t x, ty, pos, af, none⟩ :: rest) a w :=
 y_wp H hd (w' := w.alloc (.cells cs.toArray t)) (v := .pointer (some ⟨w.heap.size, 0, none⟩)) (by have h1 := H.ev hx; simp [execOp, h1, Instr.box, newVar, newRow, Value.cells, Result.andThen]) (h _ (rowAt_new (heap_alloc_new w _)) ((Below.refl _ w).alloc (Nat.le_refl _) _) (size_allocT w _))
variable {dd : Option Tmp} {gd : Option (Nat × Bool)}
theorem r_convInt {src dst : TypeId} {q q' : IntKind} {x : Operand} {n : Int} (hs : P.underlying src = some (.int q)) (hds : P.underlying dst = some (.int q')) (H : Has N D a l) (hx : ev l x = some (.int q n)) (hn : q'.wrap n = n) : ∀ w, S w → (execOp a.eval ⟨dd, .convert src dst x, ty, pos, af, gd⟩).run P w = .ok (.value (.int q' n)) w := fun w _ => by
 have h1 := H.ev hx
 have h2 : (convert src dst (.int q n)).run P w = .ok (.int q' n) w := by simp [convert, run_underlying hs, run_underlying hds, hn, Conv.intToInt, Sem.run_bind]
 simp only [execOp, h1]
 simp [h2, Result.andThen]
end
theorem tx_alloc : AllocIs Tryz.prog 34 #[.int .i64 0, .int .i64 0, .int .i64 0, .bool false, .string ⟨#[]⟩, .string ⟨#[]⟩] := fun w => by
 simp [go_sem, Instr.alloc, newVar, newRow]
theorem tx_built (k p : Int) (s : ByteArray) : Tryz.prog.built 34 [(0, .int .i64 k), (2, .int .i64 p), (4, .string s)] = some #[.int .i64 k, .int .i64 0, .int .i64 p, .bool false, .string s, .string ⟨#[]⟩] := by kernel_rfl
theorem tx_size (cs : List Value) (h : cs.length = 6) : (Tryz.prog.info? 34).map (·.size) = some cs.length := by rw [h]; kernel_rfl
theorem tx_size' (a b c d e f : Value) : (Tryz.prog.info? 34).map (·.size) = some [a, b, c, d, e, f].toArray.size := by kernel_rfl
theorem i64_size : (Tryz.prog.info? 3).map (·.size) = some 1 := by kernel_rfl
theorem bool_size : (Tryz.prog.info? 4).map (·.size) = some 1 := by kernel_rfl
theorem str_size : (Tryz.prog.info? 9).map (·.size) = some 1 := by kernel_rfl
theorem fld_x1 : FieldIs Tryz.prog 34 1 1 := fun p w => by simp [go_sem, Instr.fieldAt]
theorem fld_x3 : FieldIs Tryz.prog 34 3 3 := fun p w => by simp [go_sem, Instr.fieldAt]
theorem fld_x5 : FieldIs Tryz.prog 34 5 5 := fun p w => by simp [go_sem, Instr.fieldAt]
theorem pf_tkind : PlainFn Tryz.prog 20 := ⟨_, Tryz.func20, by kernel_rfl, by kernel_rfl⟩
theorem pf_tpos : PlainFn Tryz.prog 29 := ⟨_, Tryz.func29, by kernel_rfl, by kernel_rfl⟩
theorem pf_traw : PlainFn Tryz.prog 30 := ⟨_, Tryz.func30, by kernel_rfl, by kernel_rfl⟩
theorem pf_tnk : PlainFn Tryz.prog 31 := ⟨_, Tryz.func31, by kernel_rfl, by kernel_rfl⟩
theorem pf_tsep : PlainFn Tryz.prog 32 := ⟨_, Tryz.func32, by kernel_rfl, by kernel_rfl⟩
theorem pf_tident : PlainFn Tryz.prog 33 := ⟨_, Tryz.func33, by kernel_rfl, by kernel_rfl⟩
theorem pf_ttype : PlainFn Tryz.prog 34 := ⟨_, Tryz.func34, by kernel_rfl, by kernel_rfl⟩
end Go.Proofs.YtgdnpnipahegaaaGreatDoor

namespace Go.Proofs.YtgdnpnipahegaaaGreatDoor
open Go.ChangeShapes Go.WideShapes Go.ChangeAt Go.RowKit

set_option maxRecDepth 100000 in
set_option maxHeartbeats 100000000 in
theorem textToken_any {g : Nat} {vr : Value} {t : TT} {w : World} (hv : View w g vr t.raw) (hk9 : t.kind ≤ 9) (hatt : t.kind = 2 → t.att = 1 ∨ t.att = 2 ∨ t.att = 3) :
  Calls Tryz.prog 21 #[tokV vr t] w fun e w' => e = .returned (.agg (txCells t).toArray) ∧ Below w.heap.size w w' := by
 obtain ⟨ao, n, c, rfl⟩ := View.slice3 hv
 have HV := hid hv
 have hB0 := Below.refl w.heap.size w
 refine enter1 (M := 40) Tryz.func21 rfl rfl rfl fun a H => ?_
 refine y_seq fun K1 hK1 => ?_
 refine y_reg ?_
 obtain ⟨q2, hq2⟩ : ∃ q, q = w.heap.size := ⟨_, rfl⟩
 refine y_boxAgg (cs := tokCells6 (.slice ao n c) t) H rfl rfl fun w2 hr2 hb2 hs2 a H => ?_
 rw [← hq2] at H hr2
 have hz3 := Below.size hb2
 have hB4 := Below.trans hB0 (Below.mono hb2 (by omega))
 obtain ⟨q5, hq5⟩ : ∃ q, q = w2.heap.size := ⟨_, rfl⟩
 refine y_allocRow tx_alloc H rfl fun w5 hr5 hb5 hs5 a H => ?_
 rw [← hq5] at H hr5
 have hz6 := Below.size hb5
 have hr7 := RowAt.below hr2 (by omega) hb5
 have hB8 := Below.trans hB4 (Below.mono hb5 (by omega))
 refine wpList_nil (then_normal (hK1 _ _ ?_))
 replace H := H.k2 1 2 rfl rfl
 refine y_seq fun K9 hK9 => ?_
 have hJ1 : ∀ (a : Act) (q3 : Nat) (wk10 : World), Has 40 [] a [(1, .pointer (some ⟨q2, 0, none⟩)), (2, .pointer (some ⟨q5, 0, none⟩)), (3, .pointer (some ⟨q3, 0, none⟩))] → Below w.heap.size w wk10 → RowAt wk10 q2 (tokCells6 (.slice ao n c) t) → RowAt wk10 q5 [.int .i64 0, .int .i64 0, .int .i64 0, .bool false, .string ⟨#[]⟩, .string ⟨#[]⟩] → RowAt wk10 q3 [(.int .i64 (t.kind : Int)), (.int .i64 0), (.int .i64 (t.pos : Int)), (.bool false), (.string ⟨t.raw.toArray⟩), (.string ⟨#[]⟩)] → q5 < q3 ∧ q3 < wk10.heap.size → K9 a wk10 := by
  intro a q3 wk10 H hBwk10 hrawk10 hrbwk10 hrcwk10 hqqwk10
  refine hK9 _ _ ?_
  have hbzwk10 := Below.size hBwk10
  refine y_seq fun K11 hK11 => ?_
  refine y_seq fun K12 hK12 => ?_
  refine y_reg ?_
  refine y_loadRow Tryz.underlying50 rfl (tok_size _ rfl) H rfl hrawk10 rfl fun a H => y_call pf_tkind H rfl rfl (Calls.mono (tokKind_any (HV.out.below hBwk10)) ?_)
  rintro e w13 ⟨rfl, hb13⟩
  refine ⟨_, rfl, fun a H => ?_⟩
  have hz14 := Below.size hb13
  have hr15 := RowAt.below hrawk10 (by omega) hb13
  have hr16 := RowAt.below hrbwk10 (by omega) hb13
  have hr17 := RowAt.below hrcwk10 (by omega) hb13
  have hB18 := Below.trans hBwk10 (Below.mono hb13 (by omega))
  by_cases q19 : (((t.kind : Nat) : Int)) = ((2 : Int))
  ·refine y_eql (b := true) H rfl rfl (ieq_t (by omega)) rfl fun a H => wpList_nil (then_normal (hK12 _ _ ?_))
   replace H := H.k4 1 2 3 14 rfl rfl rfl rfl
   have hk2 : t.kind = 2 := by omega
   have hat := hatt hk2
   refine y_ift H rfl ?_
   refine y_seq fun K20 hK20 => ?_
   have hJ3 : ∀ (a : Act) (wk21 : World), Has 40 [] a [(1, .pointer (some ⟨q2, 0, none⟩)), (2, .pointer (some ⟨q5, 0, none⟩)), (3, .pointer (some ⟨q3, 0, none⟩))] → Below w.heap.size w wk21 → RowAt wk21 q2 (tokCells6 (.slice ao n c) t) → RowAt wk21 q5 [.int .i64 0, .int .i64 0, .int .i64 0, .bool false, .string ⟨#[]⟩, .string ⟨#[]⟩] → RowAt wk21 q3 [(.int .i64 (t.kind : Int)), (.int .i64 ((t.att : Nat) : Int)), (.int .i64 (t.pos : Int)), (.bool t.sep), (.string ⟨t.raw.toArray⟩), (.string ⟨#[]⟩)] → q5 < q3 ∧ q3 < wk21.heap.size → K20 a wk21 := by
    intro a wk21 H hBwk21 hrawk21 hrbwk21 hrcwk21 hqqwk21
    refine hK20 _ _ ?_
    have hbzwk21 := Below.size hBwk21
    refine y_seq fun K22 hK22 => ?_
    refine y_reg ?_
    refine y_loadRow Tryz.underlying50 rfl (tok_size _ rfl) H rfl hrawk21 rfl fun a H => y_call pf_tnk H rfl rfl (Calls.mono (tokNameKind_any (HV.out.below hBwk21) (by omega) (hatt (by omega))) ?_)
    rintro e w23 ⟨rfl, hb23⟩
    refine ⟨_, rfl, fun a H => ?_⟩
    have hz24 := Below.size hb23
    have hr25 := RowAt.below hrawk21 (by omega) hb23
    have hr26 := RowAt.below hrbwk21 (by omega) hb23
    have hr27 := RowAt.below hrcwk21 (by omega) hb23
    have hB28 := Below.trans hBwk21 (Below.mono hb23 (by omega))
    refine wpList_nil (then_normal (hK22 _ _ ?_))
    replace H := H.k4 1 2 3 23 rfl rfl rfl rfl
    refine wp_block ?_
    refine y_seq fun K29 hK29 => ?_
    refine y_reg ?_
    by_cases q30 : (((t.att : Nat) : Int)) = ((1 : Int))
    ·refine y_eql (b := true) H rfl rfl (ieq_t (by omega)) rfl fun a H => y_assign H rfl rfl fun a H => wpList_nil (then_normal (hK29 _ _ ?_))
     replace H := H.k5 1 2 3 23 24 rfl rfl rfl rfl rfl
     refine y_ift H rfl ?_
     have ha : t.att = 1 := by omega
     refine y_reg ?_
     refine y_loadRow Tryz.underlying50 rfl (tok_size _ rfl) H rfl hr25 rfl fun a H => y_call pf_tident H rfl rfl (Calls.mono (tokIdent_any (HV.out.below hB28) (by omega) (by omega)) ?_)
     rintro e w31 ⟨rfl, hb31⟩
     refine ⟨_, rfl, fun a H => ?_⟩
     have hz32 := Below.size hb31
     have hr34 := RowAt.below hr26 (by omega) hb31
     have hr35 := RowAt.below hr27 (by omega) hb31
     have hB36 := Below.trans hB28 (Below.mono hb31 (by omega))
     refine y_field fld_x5 H rfl rfl fun a H => y_storeCell (v := (.string ⟨t.raw.toArray⟩)) str_size H rfl rfl rfl (hr35 5 _ rfl).1 (hr35 5 _ rfl).2 rfl ?_
     have hr37 : RowAt (w31.setCell ⟨q3, 5, none⟩ (.string ⟨t.raw.toArray⟩)) q3 [(.int .i64 (t.kind : Int)), (.int .i64 ((t.att : Nat) : Int)), (.int .i64 (t.pos : Int)), (.bool t.sep), (.string ⟨t.raw.toArray⟩), (.string ⟨t.raw.toArray⟩)] := hr35.set 5 (by simp) (.string ⟨t.raw.toArray⟩)
     have hg37 := grownBy_set w31 q3 5 (.string ⟨t.raw.toArray⟩)
     generalize w31.setCell ⟨q3, 5, none⟩ (.string ⟨t.raw.toArray⟩) = w37 at hr37 hg37 ⊢
     have hz38 := World.grownBy.size hg37
     have hr40 := RowAt.grown hr34 hg37 (by omega) (by omega)
     have hB41 := Below.trans hB36 (below_of_grown (N := w.heap.size) hg37 (by omega) (by omega))
     refine wpList_nil (in_normal (then_normal (hK11 _ _ ?_)))
     replace H := H.k3 1 2 3 rfl rfl rfl
     refine y_seq fun K42 hK42 => ?_
     refine y_reg ?_
     refine y_loadRow Tryz.underlying34 rfl (tx_size _ rfl) H rfl hr37 rfl fun a H => y_storeRow (vs := [(.int .i64 (t.kind : Int)), (.int .i64 ((t.att : Nat) : Int)), (.int .i64 (t.pos : Int)), (.bool t.sep), (.string ⟨t.raw.toArray⟩), (.string ⟨t.raw.toArray⟩)]) H rfl rfl hr40 rfl (tx_size' _ _ _ _ _ _) (by simp [Value.oneCell']) fun w43 hr43 hg43 => ?_
     have hz44 := World.grownBy.size hg43
     have hB47 := Below.trans hB41 (below_of_grown (N := w.heap.size) hg43 (by omega) (by omega))
     refine wpList_nil (then_normal (hK42 _ _ ?_))
     replace H := H.k3 1 2 3 rfl rfl rfl
     refine wp_ret (?_)
     have h2 := H.get 2 _ rfl
     refine bodyPost_ret (results_cell1 (by rfl) _ _ q5 _ _ (by simp [h2]) hr43 Tryz.underlying34 (by rfl) (tx_size _ rfl)) H.defers ?_
     exact ⟨congrArg Ending.returned (congrArg (fun l => Value.agg (List.toArray l)) (show [(.int .i64 (t.kind : Int)), (.int .i64 ((t.att : Nat) : Int)), (.int .i64 (t.pos : Int)), (.bool t.sep), (.string ⟨t.raw.toArray⟩), (.string ⟨t.raw.toArray⟩)] = txCells t from by unfold txCells; simp [hk2, ha])), hB47⟩
    ·refine y_eql (b := false) H rfl rfl (ieq_f (by omega)) rfl fun a H => y_assign H rfl rfl fun a H => wpList_nil (then_normal (hK29 _ _ ?_))
     replace H := H.k5 1 2 3 23 24 rfl rfl rfl rfl rfl
     refine y_iff H rfl ?_
     refine y_seq fun K48 hK48 => ?_
     refine y_reg ?_
     by_cases q49 : (((t.att : Nat) : Int)) = ((2 : Int))
     ·refine y_eql (b := true) H rfl rfl (ieq_t (by omega)) rfl fun a H => y_assign H rfl rfl fun a H => wpList_nil (then_normal (hK48 _ _ ?_))
      replace H := H.k5 1 2 3 23 29 rfl rfl rfl rfl rfl
      refine y_ift H rfl ?_
      have ha : t.att = 2 := by omega
      refine y_reg ?_
      refine y_loadRow Tryz.underlying50 rfl (tok_size _ rfl) H rfl hr25 rfl fun a H => y_call pf_ttype H rfl rfl (Calls.mono (tokType_any (HV.out.below hB28) (by omega) (by omega)) ?_)
      rintro e w50 ⟨rfl, hb50⟩
      refine ⟨_, rfl, fun a H => ?_⟩
      have hz51 := Below.size hb50
      have hr53 := RowAt.below hr26 (by omega) hb50
      have hr54 := RowAt.below hr27 (by omega) hb50
      have hB55 := Below.trans hB28 (Below.mono hb50 (by omega))
      refine y_field fld_x5 H rfl rfl fun a H => y_storeCell (v := (.string ⟨t.str.toArray⟩)) str_size H rfl rfl rfl (hr54 5 _ rfl).1 (hr54 5 _ rfl).2 rfl ?_
      have hr56 : RowAt (w50.setCell ⟨q3, 5, none⟩ (.string ⟨t.str.toArray⟩)) q3 [(.int .i64 (t.kind : Int)), (.int .i64 ((t.att : Nat) : Int)), (.int .i64 (t.pos : Int)), (.bool t.sep), (.string ⟨t.raw.toArray⟩), (.string ⟨t.str.toArray⟩)] := hr54.set 5 (by simp) (.string ⟨t.str.toArray⟩)
      have hg56 := grownBy_set w50 q3 5 (.string ⟨t.str.toArray⟩)
      generalize w50.setCell ⟨q3, 5, none⟩ (.string ⟨t.str.toArray⟩) = w56 at hr56 hg56 ⊢
      have hz57 := World.grownBy.size hg56
      have hr59 := RowAt.grown hr53 hg56 (by omega) (by omega)
      have hB60 := Below.trans hB55 (below_of_grown (N := w.heap.size) hg56 (by omega) (by omega))
      refine wpList_nil (in_normal (then_normal (hK11 _ _ ?_)))
      replace H := H.k3 1 2 3 rfl rfl rfl
      refine y_seq fun K61 hK61 => ?_
      refine y_reg ?_
      refine y_loadRow Tryz.underlying34 rfl (tx_size _ rfl) H rfl hr56 rfl fun a H => y_storeRow (vs := [(.int .i64 (t.kind : Int)), (.int .i64 ((t.att : Nat) : Int)), (.int .i64 (t.pos : Int)), (.bool t.sep), (.string ⟨t.raw.toArray⟩), (.string ⟨t.str.toArray⟩)]) H rfl rfl hr59 rfl (tx_size' _ _ _ _ _ _) (by simp [Value.oneCell']) fun w62 hr62 hg62 => ?_
      have hz63 := World.grownBy.size hg62
      have hB66 := Below.trans hB60 (below_of_grown (N := w.heap.size) hg62 (by omega) (by omega))
      refine wpList_nil (then_normal (hK61 _ _ ?_))
      replace H := H.k3 1 2 3 rfl rfl rfl
      refine wp_ret (?_)
      have h2 := H.get 2 _ rfl
      refine bodyPost_ret (results_cell1 (by rfl) _ _ q5 _ _ (by simp [h2]) hr62 Tryz.underlying34 (by rfl) (tx_size _ rfl)) H.defers ?_
      exact ⟨congrArg Ending.returned (congrArg (fun l => Value.agg (List.toArray l)) (show [(.int .i64 (t.kind : Int)), (.int .i64 ((t.att : Nat) : Int)), (.int .i64 (t.pos : Int)), (.bool t.sep), (.string ⟨t.raw.toArray⟩), (.string ⟨t.str.toArray⟩)] = txCells t from by unfold txCells; simp [hk2, ha])), hB66⟩
     ·refine y_eql (b := false) H rfl rfl (ieq_f (by omega)) rfl fun a H => y_assign H rfl rfl fun a H => wpList_nil (then_normal (hK48 _ _ ?_))
      replace H := H.k5 1 2 3 23 29 rfl rfl rfl rfl rfl
      refine y_iff H rfl ?_
      refine y_seq fun K67 hK67 => ?_
      refine y_reg ?_
      refine y_eql (b := true) H rfl rfl (ieq_t (by omega)) rfl fun a H => y_assign H rfl rfl fun a H => wpList_nil (then_normal (hK67 _ _ ?_))
      replace H := H.k4 1 2 3 34 rfl rfl rfl rfl
      refine y_ift H rfl ?_
      have ha : t.att = 3 := by omega
      refine y_reg ?_
      refine y_loadRow Tryz.underlying50 rfl (tok_size _ rfl) H rfl hr25 rfl fun a H => y_call pf_traw H rfl rfl (Calls.mono (tokRaw_any (HV.out.below hB28)) ?_)
      rintro e w68 ⟨rfl, hb68⟩
      refine ⟨_, rfl, fun a H => ?_⟩
      have hz69 := Below.size hb68
      have hr71 := RowAt.below hr26 (by omega) hb68
      have hr72 := RowAt.below hr27 (by omega) hb68
      have hB73 := Below.trans hB28 (Below.mono hb68 (by omega))
      refine y_field fld_x5 H rfl rfl fun a H => y_storeCell (v := (.string ⟨t.raw.toArray⟩)) str_size H rfl rfl rfl (hr72 5 _ rfl).1 (hr72 5 _ rfl).2 rfl ?_
      have hr74 : RowAt (w68.setCell ⟨q3, 5, none⟩ (.string ⟨t.raw.toArray⟩)) q3 [(.int .i64 (t.kind : Int)), (.int .i64 ((t.att : Nat) : Int)), (.int .i64 (t.pos : Int)), (.bool t.sep), (.string ⟨t.raw.toArray⟩), (.string ⟨t.raw.toArray⟩)] := hr72.set 5 (by simp) (.string ⟨t.raw.toArray⟩)
      have hg74 := grownBy_set w68 q3 5 (.string ⟨t.raw.toArray⟩)
      generalize w68.setCell ⟨q3, 5, none⟩ (.string ⟨t.raw.toArray⟩) = w74 at hr74 hg74 ⊢
      have hz75 := World.grownBy.size hg74
      have hr77 := RowAt.grown hr71 hg74 (by omega) (by omega)
      have hB78 := Below.trans hB73 (below_of_grown (N := w.heap.size) hg74 (by omega) (by omega))
      refine wpList_nil (in_normal (then_normal (hK11 _ _ ?_)))
      replace H := H.k3 1 2 3 rfl rfl rfl
      refine y_seq fun K79 hK79 => ?_
      refine y_reg ?_
      refine y_loadRow Tryz.underlying34 rfl (tx_size _ rfl) H rfl hr74 rfl fun a H => y_storeRow (vs := [(.int .i64 (t.kind : Int)), (.int .i64 ((t.att : Nat) : Int)), (.int .i64 (t.pos : Int)), (.bool t.sep), (.string ⟨t.raw.toArray⟩), (.string ⟨t.raw.toArray⟩)]) H rfl rfl hr77 rfl (tx_size' _ _ _ _ _ _) (by simp [Value.oneCell']) fun w80 hr80 hg80 => ?_
      have hz81 := World.grownBy.size hg80
      have hB84 := Below.trans hB78 (below_of_grown (N := w.heap.size) hg80 (by omega) (by omega))
      refine wpList_nil (then_normal (hK79 _ _ ?_))
      replace H := H.k3 1 2 3 rfl rfl rfl
      refine wp_ret (?_)
      have h2 := H.get 2 _ rfl
      refine bodyPost_ret (results_cell1 (by rfl) _ _ q5 _ _ (by simp [h2]) hr80 Tryz.underlying34 (by rfl) (tx_size _ rfl)) H.defers ?_
      exact ⟨congrArg Ending.returned (congrArg (fun l => Value.agg (List.toArray l)) (show [(.int .i64 (t.kind : Int)), (.int .i64 ((t.att : Nat) : Int)), (.int .i64 (t.pos : Int)), (.bool t.sep), (.string ⟨t.raw.toArray⟩), (.string ⟨t.raw.toArray⟩)] = txCells t from by unfold txCells; simp [hk2, ha])), hB84⟩
   refine d_begin (fun w' => RowAt w' q2 (tokCells6 (.slice ao n c) t)) 9 mixedP rfl ?_
   have hbd85 : Below w13.heap.size w13 w13.drew := (Below.refl _ _).drew
   generalize w13.drew = wd85 at hbd85 ⊢
   have hz86 := Below.size hbd85
   have hr87 := RowAt.below hr15 (by omega) hbd85
   have hr88 := RowAt.below hr16 (by omega) hbd85
   have hr89 := RowAt.below hr17 (by omega) hbd85
   have hB90 := Below.trans hB18 (Below.mono hbd85 (by omega))
   refine d_take 0 H rfl (by kernel_rfl) (by kernel_rfl) (by kernel_rfl) (r_loadRow Tryz.underlying50 rfl (tok_size _ rfl) H rfl (fun _ h j v hj => by rw [Nat.zero_add]; exact (h j v hj).1)) hr87 rfl fun a H => d_take 3 H rfl (by kernel_rfl) (by kernel_rfl) (by kernel_rfl) (r_loadRow Tryz.underlying50 rfl (tok_size _ rfl) H rfl (fun _ h j v hj => by rw [Nat.zero_add]; exact (h j v hj).1)) hr87 rfl fun a H => ?_
   refine d_one 1 (by kernel_rfl) rfl rfl ?_
   refine y_call pf_tnk H rfl rfl (Calls.mono (tokNameKind_any (HV.out.below hB90) (by omega) (hatt (by omega))) ?_)
   rintro e w91 ⟨rfl, hb91⟩
   refine ⟨_, rfl, fun a H => ?_⟩
   have hz92 := Below.size hb91
   have hr93 := RowAt.below hr87 (by omega) hb91
   have hr94 := RowAt.below hr88 (by omega) hb91
   have hr95 := RowAt.below hr89 (by omega) hb91
   have hB96 := Below.trans hB90 (Below.mono hb91 (by omega))
   refine wpList_nil ⟨hr93, ?_⟩
   refine d_take 2 H rfl (by kernel_rfl) (by kernel_rfl) (by kernel_rfl) (r_convInt (q := .u8) (q' := .i64) Tryz.underlying64 Tryz.underlying3 H rfl (wraps_i64' _ (by omega) (by omega))) hr93 rfl fun a H => d_take 5 H rfl (by kernel_rfl) (by kernel_rfl) (by kernel_rfl) (r_field fld_x1 H rfl) hr93 rfl fun a H => ?_
   refine d_one 4 (by kernel_rfl) rfl rfl ?_
   refine y_call pf_tsep H rfl rfl (Calls.mono (tokSep_any (HV.out.below hB96) (by omega) (hatt (by omega))) ?_)
   rintro e w97 ⟨rfl, hb97⟩
   refine ⟨_, rfl, fun a H => ?_⟩
   have hz98 := Below.size hb97
   have hr99 := RowAt.below hr93 (by omega) hb97
   have hr100 := RowAt.below hr94 (by omega) hb97
   have hr101 := RowAt.below hr95 (by omega) hb97
   have hB102 := Below.trans hB96 (Below.mono hb97 (by omega))
   refine wpList_nil ⟨hr99, ?_⟩
   refine d_one 6 (by kernel_rfl) rfl rfl ?_
   refine y_storeCell (v := (.int .i64 ((t.att : Nat) : Int))) i64_size H rfl rfl rfl (hr101 1 _ rfl).1 (hr101 1 _ rfl).2 rfl ?_
   have hr103 : RowAt (w97.setCell ⟨q3, 1, none⟩ (.int .i64 ((t.att : Nat) : Int))) q3 [(.int .i64 (t.kind : Int)), (.int .i64 ((t.att : Nat) : Int)), (.int .i64 (t.pos : Int)), (.bool false), (.string ⟨t.raw.toArray⟩), (.string ⟨#[]⟩)] := hr101.set 1 (by simp) (.int .i64 ((t.att : Nat) : Int))
   have hg103 := grownBy_set w97 q3 1 (.int .i64 ((t.att : Nat) : Int))
   generalize w97.setCell ⟨q3, 1, none⟩ (.int .i64 ((t.att : Nat) : Int)) = w103 at hr103 hg103 ⊢
   have hz104 := World.grownBy.size hg103
   have hr105 := RowAt.grown hr99 hg103 (by omega) (by omega)
   have hr106 := RowAt.grown hr100 hg103 (by omega) (by omega)
   have hB107 := Below.trans hB102 (below_of_grown (N := w.heap.size) hg103 (by omega) (by omega))
   refine wpList_nil ⟨hr105, ?_⟩
   refine d_take 7 H rfl (by kernel_rfl) (by kernel_rfl) (by kernel_rfl) (r_field fld_x3 H rfl) hr105 rfl fun a H => ?_
   refine d_one 8 (by kernel_rfl) rfl rfl ?_
   refine y_storeCell (v := (.bool t.sep)) bool_size H rfl rfl rfl (hr103 3 _ rfl).1 (hr103 3 _ rfl).2 rfl ?_
   have hr108 : RowAt (w103.setCell ⟨q3, 3, none⟩ (.bool t.sep)) q3 [(.int .i64 (t.kind : Int)), (.int .i64 ((t.att : Nat) : Int)), (.int .i64 (t.pos : Int)), (.bool t.sep), (.string ⟨t.raw.toArray⟩), (.string ⟨#[]⟩)] := hr103.set 3 (by simp) (.bool t.sep)
   have hg108 := grownBy_set w103 q3 3 (.bool t.sep)
   generalize w103.setCell ⟨q3, 3, none⟩ (.bool t.sep) = w108 at hr108 hg108 ⊢
   have hz109 := World.grownBy.size hg108
   have hr110 := RowAt.grown hr105 hg108 (by omega) (by omega)
   have hr111 := RowAt.grown hr106 hg108 (by omega) (by omega)
   have hB112 := Below.trans hB107 (below_of_grown (N := w.heap.size) hg108 (by omega) (by omega))
   refine wpList_nil ⟨hr110, ?_⟩
   exact d_done (by kernel_rfl) (then_normal (hJ3 _ w108 (H.sub _ (sub_cons rfl (sub_cons rfl (sub_cons rfl (sub_nil))))) hB112 hr110 hr111 hr108 ⟨by omega, by omega⟩))
  ·refine y_eql (b := false) H rfl rfl (ieq_f (by omega)) rfl fun a H => wpList_nil (then_normal (hK12 _ _ ?_))
   replace H := H.k4 1 2 3 14 rfl rfl rfl rfl
   have hk2 : t.kind ≠ 2 := by omega
   refine y_iff H rfl ?_
   refine wp_skip (then_normal (hK11 _ _ ?_))
   replace H := H.k3 1 2 3 rfl rfl rfl
   refine y_seq fun K113 hK113 => ?_
   refine y_reg ?_
   refine y_loadRow Tryz.underlying34 rfl (tx_size _ rfl) H rfl hr17 rfl fun a H => y_storeRow (vs := [(.int .i64 (t.kind : Int)), (.int .i64 0), (.int .i64 (t.pos : Int)), (.bool false), (.string ⟨t.raw.toArray⟩), (.string ⟨#[]⟩)]) H rfl rfl hr16 rfl (tx_size' _ _ _ _ _ _) (by simp [Value.oneCell']) fun w114 hr114 hg114 => ?_
   have hz115 := World.grownBy.size hg114
   have hB118 := Below.trans hB18 (below_of_grown (N := w.heap.size) hg114 (by omega) (by omega))
   refine wpList_nil (then_normal (hK113 _ _ ?_))
   replace H := H.k3 1 2 3 rfl rfl rfl
   refine wp_ret (?_)
   have h2 := H.get 2 _ rfl
   refine bodyPost_ret (results_cell1 (by rfl) _ _ q5 _ _ (by simp [h2]) hr114 Tryz.underlying34 (by rfl) (tx_size _ rfl)) H.defers ?_
   exact ⟨congrArg Ending.returned (congrArg (fun l => Value.agg (List.toArray l)) (show [(.int .i64 (t.kind : Int)), (.int .i64 0), (.int .i64 (t.pos : Int)), (.bool false), (.string ⟨t.raw.toArray⟩), (.string ⟨#[]⟩)] = txCells t from by unfold txCells; simp [hk2])), hB118⟩
 refine d_begin (fun w' => RowAt w' q2 (tokCells6 (.slice ao n c) t)) 10 mixedP rfl ?_
 have hbd119 : Below w5.heap.size w5 w5.drew := (Below.refl _ _).drew
 generalize w5.drew = wd119 at hbd119 ⊢
 have hz120 := Below.size hbd119
 have hr121 := RowAt.below hr7 (by omega) hbd119
 have hr122 := RowAt.below hr5 (by omega) hbd119
 have hB123 := Below.trans hB8 (Below.mono hbd119 (by omega))
 refine d_take 0 H rfl (by kernel_rfl) (by kernel_rfl) (by kernel_rfl) (r_loadRow Tryz.underlying50 rfl (tok_size _ rfl) H rfl (fun _ h j v hj => by rw [Nat.zero_add]; exact (h j v hj).1)) hr121 rfl fun a H => d_take 3 H rfl (by kernel_rfl) (by kernel_rfl) (by kernel_rfl) (r_loadRow Tryz.underlying50 rfl (tok_size _ rfl) H rfl (fun _ h j v hj => by rw [Nat.zero_add]; exact (h j v hj).1)) hr121 rfl fun a H => d_take 5 H rfl (by kernel_rfl) (by kernel_rfl) (by kernel_rfl) (r_loadRow Tryz.underlying50 rfl (tok_size _ rfl) H rfl (fun _ h j v hj => by rw [Nat.zero_add]; exact (h j v hj).1)) hr121 rfl fun a H => ?_
 refine d_two 1 8 (by kernel_rfl) rfl rfl rfl rfl ?_ ?_
 ·refine y_call pf_tkind H rfl rfl (Calls.mono (tokKind_any (HV.out.below hB123)) ?_)
  rintro e w124 ⟨rfl, hb124⟩
  refine ⟨_, rfl, fun a H => ?_⟩
  have hz125 := Below.size hb124
  have hr126 := RowAt.below hr121 (by omega) hb124
  have hr127 := RowAt.below hr122 (by omega) hb124
  have hB128 := Below.trans hB123 (Below.mono hb124 (by omega))
  refine wpList_nil ⟨hr126, ?_⟩
  refine d_take 2 H rfl (by kernel_rfl) (by kernel_rfl) (by kernel_rfl) (r_convInt (q := .u8) (q' := .i64) Tryz.underlying48 Tryz.underlying3 H rfl (wraps_i64' _ (by omega) (by omega))) hr126 rfl fun a H => ?_
  refine d_two 4 8 (by kernel_rfl) rfl rfl rfl rfl ?_ ?_
  ·refine y_call pf_tpos H rfl rfl (Calls.mono (tokPos_any (HV.out.below hB128)) ?_)
   rintro e w129 ⟨rfl, hb129⟩
   refine ⟨_, rfl, fun a H => ?_⟩
   have hz130 := Below.size hb129
   have hr131 := RowAt.below hr126 (by omega) hb129
   have hr132 := RowAt.below hr127 (by omega) hb129
   have hB133 := Below.trans hB128 (Below.mono hb129 (by omega))
   refine wpList_nil ⟨hr131, ?_⟩
   refine d_two 6 8 (by kernel_rfl) rfl rfl rfl rfl ?_ ?_
   ·refine y_call pf_traw H rfl rfl (Calls.mono (tokRaw_any (HV.out.below hB133)) ?_)
    rintro e w134 ⟨rfl, hb134⟩
    refine ⟨_, rfl, fun a H => ?_⟩
    have hz135 := Below.size hb134
    have hr136 := RowAt.below hr131 (by omega) hb134
    have hr137 := RowAt.below hr132 (by omega) hb134
    have hB138 := Below.trans hB133 (Below.mono hb134 (by omega))
    refine wpList_nil ⟨hr136, ?_⟩
    refine d_take 7 H rfl (by kernel_rfl) (by kernel_rfl) (by kernel_rfl) (r_bld (tx_built _ _ _) H rfl) hr136 rfl fun a H => ?_
    refine d_one 8 (by kernel_rfl) rfl rfl ?_
    obtain ⟨q139, hq139⟩ : ∃ q, q = w134.heap.size := ⟨_, rfl⟩
    refine y_allocRow tx_alloc H rfl fun w139 hr139 hb139 hs139 a H => ?_
    rw [← hq139] at H hr139
    have hz140 := Below.size hb139
    have hr141 := RowAt.below hr136 (by omega) hb139
    have hr142 := RowAt.below hr137 (by omega) hb139
    have hB143 := Below.trans hB138 (Below.mono hb139 (by omega))
    refine wpList_nil ⟨hr141, ?_⟩
    refine d_one 9 (by kernel_rfl) rfl rfl ?_
    refine y_storeRow (vs := [(.int .i64 (t.kind : Int)), (.int .i64 0), (.int .i64 (t.pos : Int)), (.bool false), (.string ⟨t.raw.toArray⟩), (.string ⟨#[]⟩)]) H rfl rfl hr139 rfl (tx_size' _ _ _ _ _ _) (by simp [Value.oneCell']) fun w144 hr144 hg144 => ?_
    have hz145 := World.grownBy.size hg144
    have hr146 := RowAt.grown hr141 hg144 (by omega) (by omega)
    have hr147 := RowAt.grown hr142 hg144 (by omega) (by omega)
    have hB148 := Below.trans hB143 (below_of_grown (N := w.heap.size) hg144 (by omega) (by omega))
    refine wpList_nil ⟨hr146, ?_⟩
    exact d_done (by kernel_rfl) (then_normal (hJ1 _ q139 w144 (H.sub _ (sub_cons rfl (sub_cons rfl (sub_cons rfl (sub_nil))))) hB148 hr146 hr147 hr144 ⟨by omega, by omega⟩))
   ·obtain ⟨q149, hq149⟩ : ∃ q, q = w129.heap.size := ⟨_, rfl⟩
    refine y_allocRow tx_alloc H rfl fun w149 hr149 hb149 hs149 a H => ?_
    rw [← hq149] at H hr149
    have hz150 := Below.size hb149
    have hr151 := RowAt.below hr131 (by omega) hb149
    have hr152 := RowAt.below hr132 (by omega) hb149
    have hB153 := Below.trans hB133 (Below.mono hb149 (by omega))
    refine wpList_nil ⟨hr151, ?_⟩
    refine d_one 6 (by kernel_rfl) rfl rfl ?_
    refine y_call pf_traw H rfl rfl (Calls.mono (tokRaw_any (HV.out.below hB153)) ?_)
    rintro e w154 ⟨rfl, hb154⟩
    refine ⟨_, rfl, fun a H => ?_⟩
    have hz155 := Below.size hb154
    have hr156 := RowAt.below hr151 (by omega) hb154
    have hr157 := RowAt.below hr152 (by omega) hb154
    have hr158 := RowAt.below hr149 (by omega) hb154
    have hB159 := Below.trans hB153 (Below.mono hb154 (by omega))
    refine wpList_nil ⟨hr156, ?_⟩
    refine d_take 7 H rfl (by kernel_rfl) (by kernel_rfl) (by kernel_rfl) (r_bld (tx_built _ _ _) H rfl) hr156 rfl fun a H => ?_
    refine d_one 9 (by kernel_rfl) rfl rfl ?_
    refine y_storeRow (vs := [(.int .i64 (t.kind : Int)), (.int .i64 0), (.int .i64 (t.pos : Int)), (.bool false), (.string ⟨t.raw.toArray⟩), (.string ⟨#[]⟩)]) H rfl rfl hr158 rfl (tx_size' _ _ _ _ _ _) (by simp [Value.oneCell']) fun w160 hr160 hg160 => ?_
    have hz161 := World.grownBy.size hg160
    have hr162 := RowAt.grown hr156 hg160 (by omega) (by omega)
    have hr163 := RowAt.grown hr157 hg160 (by omega) (by omega)
    have hB164 := Below.trans hB159 (below_of_grown (N := w.heap.size) hg160 (by omega) (by omega))
    refine wpList_nil ⟨hr162, ?_⟩
    exact d_done (by kernel_rfl) (then_normal (hJ1 _ q149 w160 (H.sub _ (sub_cons rfl (sub_cons rfl (sub_cons rfl (sub_nil))))) hB164 hr162 hr163 hr160 ⟨by omega, by omega⟩))
  ·obtain ⟨q165, hq165⟩ : ∃ q, q = w124.heap.size := ⟨_, rfl⟩
   refine y_allocRow tx_alloc H rfl fun w165 hr165 hb165 hs165 a H => ?_
   rw [← hq165] at H hr165
   have hz166 := Below.size hb165
   have hr167 := RowAt.below hr126 (by omega) hb165
   have hr168 := RowAt.below hr127 (by omega) hb165
   have hB169 := Below.trans hB128 (Below.mono hb165 (by omega))
   refine wpList_nil ⟨hr167, ?_⟩
   refine d_one 4 (by kernel_rfl) rfl rfl ?_
   refine y_call pf_tpos H rfl rfl (Calls.mono (tokPos_any (HV.out.below hB169)) ?_)
   rintro e w170 ⟨rfl, hb170⟩
   refine ⟨_, rfl, fun a H => ?_⟩
   have hz171 := Below.size hb170
   have hr172 := RowAt.below hr167 (by omega) hb170
   have hr173 := RowAt.below hr168 (by omega) hb170
   have hr174 := RowAt.below hr165 (by omega) hb170
   have hB175 := Below.trans hB169 (Below.mono hb170 (by omega))
   refine wpList_nil ⟨hr172, ?_⟩
   refine d_one 6 (by kernel_rfl) rfl rfl ?_
   refine y_call pf_traw H rfl rfl (Calls.mono (tokRaw_any (HV.out.below hB175)) ?_)
   rintro e w176 ⟨rfl, hb176⟩
   refine ⟨_, rfl, fun a H => ?_⟩
   have hz177 := Below.size hb176
   have hr178 := RowAt.below hr172 (by omega) hb176
   have hr179 := RowAt.below hr173 (by omega) hb176
   have hr180 := RowAt.below hr174 (by omega) hb176
   have hB181 := Below.trans hB175 (Below.mono hb176 (by omega))
   refine wpList_nil ⟨hr178, ?_⟩
   refine d_take 7 H rfl (by kernel_rfl) (by kernel_rfl) (by kernel_rfl) (r_bld (tx_built _ _ _) H rfl) hr178 rfl fun a H => ?_
   refine d_one 9 (by kernel_rfl) rfl rfl ?_
   refine y_storeRow (vs := [(.int .i64 (t.kind : Int)), (.int .i64 0), (.int .i64 (t.pos : Int)), (.bool false), (.string ⟨t.raw.toArray⟩), (.string ⟨#[]⟩)]) H rfl rfl hr180 rfl (tx_size' _ _ _ _ _ _) (by simp [Value.oneCell']) fun w182 hr182 hg182 => ?_
   have hz183 := World.grownBy.size hg182
   have hr184 := RowAt.grown hr178 hg182 (by omega) (by omega)
   have hr185 := RowAt.grown hr179 hg182 (by omega) (by omega)
   have hB186 := Below.trans hB181 (below_of_grown (N := w.heap.size) hg182 (by omega) (by omega))
   refine wpList_nil ⟨hr184, ?_⟩
   exact d_done (by kernel_rfl) (then_normal (hJ1 _ q165 w182 (H.sub _ (sub_cons rfl (sub_cons rfl (sub_cons rfl (sub_nil))))) hB186 hr184 hr185 hr182 ⟨by omega, by omega⟩))
 ·obtain ⟨q187, hq187⟩ : ∃ q, q = wd119.heap.size := ⟨_, rfl⟩
  refine y_allocRow tx_alloc H rfl fun w187 hr187 hb187 hs187 a H => ?_
  rw [← hq187] at H hr187
  have hz188 := Below.size hb187
  have hr189 := RowAt.below hr121 (by omega) hb187
  have hr190 := RowAt.below hr122 (by omega) hb187
  have hB191 := Below.trans hB123 (Below.mono hb187 (by omega))
  refine wpList_nil ⟨hr189, ?_⟩
  refine d_one 1 (by kernel_rfl) rfl rfl ?_
  refine y_call pf_tkind H rfl rfl (Calls.mono (tokKind_any (HV.out.below hB191)) ?_)
  rintro e w192 ⟨rfl, hb192⟩
  refine ⟨_, rfl, fun a H => ?_⟩
  have hz193 := Below.size hb192
  have hr194 := RowAt.below hr189 (by omega) hb192
  have hr195 := RowAt.below hr190 (by omega) hb192
  have hr196 := RowAt.below hr187 (by omega) hb192
  have hB197 := Below.trans hB191 (Below.mono hb192 (by omega))
  refine wpList_nil ⟨hr194, ?_⟩
  refine d_take 2 H rfl (by kernel_rfl) (by kernel_rfl) (by kernel_rfl) (r_convInt (q := .u8) (q' := .i64) Tryz.underlying48 Tryz.underlying3 H rfl (wraps_i64' _ (by omega) (by omega))) hr194 rfl fun a H => ?_
  refine d_one 4 (by kernel_rfl) rfl rfl ?_
  refine y_call pf_tpos H rfl rfl (Calls.mono (tokPos_any (HV.out.below hB197)) ?_)
  rintro e w198 ⟨rfl, hb198⟩
  refine ⟨_, rfl, fun a H => ?_⟩
  have hz199 := Below.size hb198
  have hr200 := RowAt.below hr194 (by omega) hb198
  have hr201 := RowAt.below hr195 (by omega) hb198
  have hr202 := RowAt.below hr196 (by omega) hb198
  have hB203 := Below.trans hB197 (Below.mono hb198 (by omega))
  refine wpList_nil ⟨hr200, ?_⟩
  refine d_one 6 (by kernel_rfl) rfl rfl ?_
  refine y_call pf_traw H rfl rfl (Calls.mono (tokRaw_any (HV.out.below hB203)) ?_)
  rintro e w204 ⟨rfl, hb204⟩
  refine ⟨_, rfl, fun a H => ?_⟩
  have hz205 := Below.size hb204
  have hr206 := RowAt.below hr200 (by omega) hb204
  have hr207 := RowAt.below hr201 (by omega) hb204
  have hr208 := RowAt.below hr202 (by omega) hb204
  have hB209 := Below.trans hB203 (Below.mono hb204 (by omega))
  refine wpList_nil ⟨hr206, ?_⟩
  refine d_take 7 H rfl (by kernel_rfl) (by kernel_rfl) (by kernel_rfl) (r_bld (tx_built _ _ _) H rfl) hr206 rfl fun a H => ?_
  refine d_one 9 (by kernel_rfl) rfl rfl ?_
  refine y_storeRow (vs := [(.int .i64 (t.kind : Int)), (.int .i64 0), (.int .i64 (t.pos : Int)), (.bool false), (.string ⟨t.raw.toArray⟩), (.string ⟨#[]⟩)]) H rfl rfl hr208 rfl (tx_size' _ _ _ _ _ _) (by simp [Value.oneCell']) fun w210 hr210 hg210 => ?_
  have hz211 := World.grownBy.size hg210
  have hr212 := RowAt.grown hr206 hg210 (by omega) (by omega)
  have hr213 := RowAt.grown hr207 hg210 (by omega) (by omega)
  have hB214 := Below.trans hB209 (below_of_grown (N := w.heap.size) hg210 (by omega) (by omega))
  refine wpList_nil ⟨hr212, ?_⟩
  exact d_done (by kernel_rfl) (then_normal (hJ1 _ q187 w210 (H.sub _ (sub_cons rfl (sub_cons rfl (sub_cons rfl (sub_nil))))) hB214 hr212 hr213 hr210 ⟨by omega, by omega⟩))
end Go.Proofs.YtgdnpnipahegaaaGreatDoor
