/-
 A walk over frames of which some slots are known: the package's reader in memory, tokens, new rows.
-/
import Derived.Test.YtgdnpnipahegaaaGreatDoorSymT
import Derived.Test.YtgdnpnipahegaaaGreatDoorTSwitch
import Derived.Test.YtgdnpnipahegaaaGreatDoorTLit
import Derived.FnLit

namespace Go.Proofs.YtgdnpnipahegaaaGreatDoor
open Go.ChangeShapes Go.WideShapes Go.ChangeAt Go.RowKit

section
variable {N : Nat} {D : List Deferred} {a : Act} {l : List (Nat × Value)} {P : Program} {L rest : List Oper} {Q : Exit → Act → World → Prop} {w : World} {d : Nat} {ty : TypeId} {pos : String} {af : Array Edge}
theorem y_allocRow {t : TypeId} {cs : Array Value} (hr : AllocIs P t cs) (H : Has N D a l) (hd : Nat.blt d N = true)
  (h : ∀ w', RowAt w' w.heap.size cs.toList → Below w.heap.size w w' → w'.heap.size = w.heap.size + 1 → ∀ a, Has N D a ((d, .pointer (some ⟨w.heap.size, 0, none⟩)) :: l) → wpList P L.toArray Q rest a w') : wpList P L.toArray Q (⟨some d, .alloc t, ty, pos, af, none⟩ :: rest) a w :=
 y_alloc hr H hd (h _ (rowAt_new (heap_alloc_new w _)) ((Below.refl _ w).alloc (Nat.le_refl _) _) (size_allocT w _))
theorem y_loadRow {t : TypeId} {x : Operand} {q : Nat} {cs : List Value} {ds : TypeDesc} (hu : P.underlying t = some ds) (hds : ds.isRow = true) (hi : (P.info? t).map (·.size) = some cs.length) (H : Has N D a l) (hx : ev l x = some (.pointer (some ⟨q, 0, none⟩))) (hr : RowAt w q cs) (hd : Nat.blt d N = true)
  (h : ∀ a, Has N D a ((d, .agg cs.toArray) :: l) → wpList P L.toArray Q rest a w) : wpList P L.toArray Q (⟨some d, .load t x, ty, pos, af, none⟩ :: rest) a w :=
 wpList_load_mid rfl t x rfl q 0 (H.ev hx) cs ds (fun j v hj => by rw [Nat.zero_add]; exact (hr j v hj).1) hu hds hi (h _ (H.put hd))
theorem run_storeOne {t : TypeId} {b o : Nat} {v u : Value} (hi : (P.info? t).map (·.size) = some 1) (hv : v.cells = #[v]) (hc : w.cell? ⟨b, o, none⟩ = some u) (hf : w.frozen? ⟨b, o, none⟩ = false) (h1 : v.oneCell' = true) :
  (Instr.storeAt t (.pointer (some ⟨b, o, none⟩)) v).run P w = .ok () (w.setCell ⟨b, o, none⟩ v) := by
 have := run_storeCells_cells (P := P) b o [v] 0 w (fun j hj => by
  obtain rfl : j = 0 := by simpa using hj
  simp [hc]) (fun j hj => by
  obtain rfl : j = 0 := by simpa using hj
  simpa using hf) (fun x hx => by
  obtain rfl : x = v := by simpa using hx
  exact h1)
 cases hq : P.info? t with
 | none => simp [hq] at hi
 | some i =>
  have hs : i.size = 1 := by simpa [hq] using hi
  simp only [Nat.add_zero, World.setCells] at this
  simp [Instr.storeAt, Instr.sureAddr, Sem.run_bind, storeVar, sizeOf, typeInfo, hq, hv, hs, this, Result.andThen]
theorem y_storeCell {t : TypeId} {x y : Operand} {b o : Nat} {v u : Value} (hi : (P.info? t).map (·.size) = some 1) (H : Has N D a l) (hx : ev l x = some (.pointer (some ⟨b, o, none⟩))) (hy : ev l y = some v) (hv : v.cells = #[v]) (hc : w.cell? ⟨b, o, none⟩ = some u) (hf : w.frozen? ⟨b, o, none⟩ = false) (h1 : v.oneCell' = true)
  (h : wpList P L.toArray Q rest a (w.setCell ⟨b, o, none⟩ v)) : wpList P L.toArray Q (⟨none, .store t x y, ty, pos, af, none⟩ :: rest) a w := by
 refine wpList_plain rfl fun K hK => ?_
 have e1 := H.ev hx
 have e2 := H.ev hy
 unfold Oper.wp
 simp only [execOp, e1, e2]
 rw [Sem.run_bind, run_storeOne hi hv hc hf h1]
 exact hK _ _ h
theorem y_mkIface {t : TypeId} {x : Operand} {v : Value} {ds : TypeDesc} (hu : P.underlying t = some ds) (hds : (match ds with | .interface _ => false | _ => true) = true) (H : Has N D a l) (hx : ev l x = some v) (hd : Nat.blt d N = true)
  (h : ∀ a, Has N D a ((d, .iface t v) :: l) → wpList P L.toArray Q rest a w) : wpList P L.toArray Q (⟨some d, .makeInterface t x, ty, pos, af, none⟩ :: rest) a w :=
 y_wp H hd (by
  have h1 := H.ev hx
  simp only [execOp, h1]
  cases ds <;> simp_all [Instr.makeInterface, run_underlying hu, Sem.run_bind, Result.andThen]) h
end
theorem View.uptoRun {P : Program} {w : World} {g : Nat} {v : Value} {bs : List UInt8} (hv : View w g v bs) {t e : TypeId} (ht : P.underlying t = some (.slice e)) (hinfo : (P.info? e).map (fun i => (i.zero, i.size, i.bytes)) = some (some (.int .u8 0), 1, 1))
  (k' : IntKind) (n : Nat) (hm : n ≤ bs.length) : ∃ ao c, (∀ W, (Instr.sliceAt t v none (some (.int k' (n : Int))) none).run P W = .ok (.slice ao n c) W) ∧ View w g (.slice ao n c) (bs.take n) := by
 obtain ⟨ao, cap, rfl, h3, h4, hn0, off, h5, h6⟩ := hv
 obtain ⟨inf, hi1, hz, hz1, hz2⟩ := info_parts hinfo
 have hlen : (bs.take n).length = n := by simp; omega
 have hs : P.underlying t = some (.slice (P.elem t)) := by simp [Program.elem, ht]
 have he : P.elem t = e := by simp [Program.elem, ht]
 have hc : (n : Int) ≤ (cap : Int) := by omega
 have hrun : ∀ W, (Instr.sliceAt t (.slice ao bs.length cap) none (some (.int k' (n : Int))) none).run P W = .ok (sliced ao 0 n cap 1) W := fun W => by
  have hsz : (sizeOf (P.elem t)).run P W = .ok 1 W := by simp [sizeOf, typeInfo, he, hi1, hz1]
  rw [run_sliceAt_slice W t _ _ _ _ hs, run_slice_h W t ao bs.length cap hs k' (n : Int) (by omega) hc, hsz]
  simp [Result.andThen]
 refine ⟨_, _, hrun, _, _, by rw [hlen] <;> rfl, by omega, by omega, by intro he; cases ao with
   | none => have := hn0 rfl; omega
   | some ad => split at he <;> simp at he, off, ?_, ?_⟩
 ·intro hne
  have hbs : bs ≠ [] := by intro e; subst e; simp at hne
  rw [h5 hbs]
  split <;> simp [Addr.add_lit]
 ·intro i hi
  rw [hlen] at hi
  rw [h6 i (by omega)]
  simp
theorem fld_nk : FieldIs Tryz.prog 80 0 0 := fun p w => by simp [go_sem, Instr.fieldAt]
theorem fld_nn : FieldIs Tryz.prog 80 1 1 := fun p w => by simp [go_sem, Instr.fieldAt]
theorem fld_nz : FieldIs Tryz.prog 80 2 2 := fun p w => by simp [go_sem, Instr.fieldAt]
theorem num_size' (a b c d : Value) : (Tryz.prog.info? 80).map (·.size) = some [a, b, c, d].toArray.size := by kernel_rfl
theorem num_size (cs : List Value) (h : cs.length = 4) : (Tryz.prog.info? 80).map (·.size) = some cs.length := by rw [h]; kernel_rfl
theorem pf_dconsume : PlainFn Tryz.prog 39 := ⟨_, Tryz.func39, by kernel_rfl, by kernel_rfl⟩
theorem y_neNil {N : Nat} {D : List Deferred} {a : Act} {l : List (Nat × Value)} {L rest : List Oper} {Q : Exit → Act → World → Prop} {w : World} {d : Nat} {ty : TypeId} {pos : String} {af : Array Edge} {x : Operand} {v : Value} {b : Bool} (H : Has N D a l) (hx : ev l x = some v) (hb : (v = .nilIface ∧ b = false) ∨ (∃ te xe, v = .iface te xe ∧ b = true)) (hd : Nat.blt d N = true)
  (h : ∀ a, Has N D a ((d, .bool b) :: l) → wpList Tryz.prog L.toArray Q rest a w) : wpList Tryz.prog L.toArray Q (⟨some d, .binOp .neq 52 x (.const .nilIface) 52, ty, pos, af, none⟩ :: rest) a w :=
 y_wp H hd (by
  have h1 := H.ev hx
  rcases hb with ⟨rfl, rfl⟩ | ⟨te, xe, rfl, rfl⟩ <;> (simp only [execOp, h1]; simp [go_sem])) h
theorem mixedP : Tryz.prog.follows .mixedOrders = true := by kernel_rfl
theorem fld_in : FieldIs Tryz.prog 59 5 10 := fun p w => by simp [go_sem, Instr.fieldAt]
theorem fld_orig : FieldIs Tryz.prog 59 4 9 := fun p w => by simp [go_sem, Instr.fieldAt]
theorem fld_open : FieldIs Tryz.prog 59 3 8 := fun p w => by simp [go_sem, Instr.fieldAt]
theorem one22 : OneCell Tryz.prog 22 := fun w => by simp [isAgg, Sem.run_bind, go_sem]
theorem oneErr : OneCell Tryz.prog 52 := fun w => by simp [isAgg, Sem.run_bind, go_sem]
theorem oneInt : OneCell Tryz.prog 3 := fun w => by simp [isAgg, Sem.run_bind, go_sem]
theorem oneBool : OneCell Tryz.prog 4 := fun w => by simp [isAgg, Sem.run_bind, go_sem]
theorem alloc_tok : AllocIs Tryz.prog 50 #[.int .u8 0, .int .u8 0, .int .u8 0, .int .i64 0, .slice none 0 0, .string { data := #[] }] := fun w => by
 simp [go_sem, Instr.alloc, newVar, newRow]
theorem built_tok0 : Tryz.prog.built 50 [] = some #[.int .u8 0, .int .u8 0, .int .u8 0, .int .i64 0, .slice none 0 0, .string { data := #[] }] := by kernel_rfl
theorem built_tok5 (k at_ pos : Int) (ao : Option Addr) (n c : Nat) (s : ByteArray) : Tryz.prog.built 50 [(0, .int .u8 k), (1, .int .u8 at_), (3, .int .i64 pos), (4, .slice ao n c), (5, .string s)] = some #[.int .u8 k, .int .u8 at_, .int .u8 0, .int .i64 pos, .slice ao n c, .string s] := by kernel_rfl
theorem built_tok6 (k at_ pos na : Int) (ao : Option Addr) (n c : Nat) (s : ByteArray) : Tryz.prog.built 50 [(0, .int .u8 k), (1, .int .u8 at_), (3, .int .i64 pos), (4, .slice ao n c), (5, .string s), (2, .int .u8 na)] = some #[.int .u8 k, .int .u8 at_, .int .u8 na, .int .i64 pos, .slice ao n c, .string s] := by kernel_rfl
theorem tok_size (cs : List Value) (h : cs.length = 6) : (Tryz.prog.info? 50).map (·.size) = some cs.length := by rw [h]; kernel_rfl
theorem tok_size' (a b c d e f : Value) : (Tryz.prog.info? 50).map (·.size) = some [a, b, c, d, e, f].toArray.size := by kernel_rfl
theorem size22 : (Tryz.prog.info? 22).map (·.size) = some 1 := by kernel_rfl
theorem noTok_eq : noTok = .agg [Value.int .u8 0, .int .u8 0, .int .u8 0, .int .i64 0, .slice none 0 0, .string ⟨#[]⟩].toArray := rfl
theorem below_of_grown {N q : Nat} {w1 w2 : World} (hg : w1.grownBy w2 (some q)) (hq : N ≤ q) (hs : N ≤ w1.heap.size) : Below N w1 w2 :=
 ⟨hg.os, hg.tape, hg.output, hg.size, fun k hk => hg.block k (by omega) (fun e => by injection e with e; omega)⟩
theorem grown_trans {p : Option Nat} {w0 w1 w2 : World} (h : w0.grownBy w1 p) (k : w1.grownBy w2 p) : w0.grownBy w2 p :=
 ⟨k.os.trans h.os, k.tape.trans h.tape, k.output.trans h.output, Nat.le_trans h.size k.size, fun j hj hne => (k.block j (by have := h.size; omega) hne).trans (h.block j hj hne)⟩
theorem grown_cell {q : Nat} {w w' : World} {ad : Addr} {v : Value} (hg : w.grownBy w' (some q)) (hc : w.cell? ad = some v) (hne : ad.block ≠ q) : w'.cell? ad = some v :=
 (World.cell?_of_block (hg.block ad.block (World.block_lt_of_cell? w ad hc) (fun e => by injection e with e; exact hne e))).trans hc
theorem RowAt.grown {w w' : World} {q k : Nat} {cs : List Value} (h : RowAt w q cs) (hg : w.grownBy w' (some k)) (hq : q < w.heap.size) (hne : q ≠ k) : RowAt w' q cs := h.kept (hg.block q hq (fun e => by injection e with e; exact hne e))
theorem RowAt.belowN {w w' : World} {q N : Nat} {cs : List Value} (h : RowAt w q cs) (hb : Below N w w') (hq : q < N) : RowAt w' q cs := h.kept (hb.block q hq)
theorem View.grown {w w' : World} {g k : Nat} {v : Value} {l : List UInt8} (h : View w g v l) (hg : w.grownBy w' (some k)) (hl : g < w.heap.size) (hne : g ≠ k) : View w' g v l := h.kept (hg.block g hl (fun e => by injection e with e; exact hne e))
theorem below_grow' {B q : Nat} {w0 w1 w2 : World} (h : Below B w0 w1) (hg : w1.grownBy w2 (some q)) (hq : B ≤ q) (hB : B ≤ w1.heap.size) : Below B w0 w2 :=
 ⟨hg.os.trans h.os, hg.tape.trans h.tape, hg.output.trans h.output, Nat.le_trans h.size hg.size, fun k hk => (hg.block k (by omega) (fun e => by injection e with e; omega)).trans (h.block k hk)⟩
theorem ret2 {N : Nat} {a : Act} {l : List (Nat × Value)} {w : World} {fn : Func} {t u : Tmp} {q : Nat} {c0 c1 c2 c3 c4 c5 e : Value} {R : Ending → World → Prop} (hres : fn.results = #[.cell t 50, .tmp u])
  (H : Has N [] a l) (h1 : look l t = some (.pointer (some ⟨q, 0, none⟩))) (h2 : look l u = some e) (hr : RowAt w q [c0, c1, c2, c3, c4, c5]) (hR : R (.returned (.tuple #[.agg #[c0, c1, c2, c3, c4, c5], e])) w) : bodyPost Tryz.prog fn R .ret a w := by
 have e1 := H.get t _ h1
 have e2 := H.get u _ h2
 have h3 : a.tmps.getD u undef = e := by simp [e2]
 have := results_cell2 (P := Tryz.prog) (u := u) hres a.tmps w q [c0, c1, c2, c3, c4, c5] _ (by simp [e1]) hr Tryz.underlying50 (by rfl) (by kernel_rfl)
 rw [h3] at this
 exact bodyPost_ret_by this H.defers hR
def TokRes' (B p g : Nat) (bs : List UInt8) (vr ve vst vo vi : Value) (s : DT) (w : World) (o : Option (TT × Nat)) (e : Ending) (w' : World) : Prop := match o with
 | none => e = .returned (.tuple #[noTok, .bool false]) ∧ DW B p g bs vr ve vst vo vi s w' ∧ w.grownBy w' (some p)
 | some (t, k) => ∃ vt vi', e = .returned (.tuple #[tokV vt t, .bool true]) ∧ View w' g vt t.raw ∧ DW B p g bs vr ve vst vo vi' { s with k := k } w' ∧ w.grownBy w' (some p)
def ScRes (B p g : Nat) (bs : List UInt8) (vr ve vst vo : Value) (s : DT) (w : World) (o : Option (TT × Nat)) (e : Ending) (w' : World) : Prop := match o with
 | none => (∃ t x, e = .returned (.tuple #[noTok, .iface t x])) ∧ (∃ vi' k, DW B p g bs vr ve vst vo vi' { s with k := k } w') ∧ w.grownBy w' (some p)
 | some (t, k) => ∃ vt vi', e = .returned (.tuple #[tokV vt t, .nilIface]) ∧ View w' g vt t.raw ∧ DW B p g bs vr ve vst vo vi' { s with k := k } w' ∧ w.grownBy w' (some p)
end Go.Proofs.YtgdnpnipahegaaaGreatDoor

namespace Go.Proofs.YtgdnpnipahegaaaGreatDoor
open Go.ChangeShapes Go.WideShapes Go.ChangeAt Go.RowKit

theorem Has.enter3 {M : Nat} (v u x : Value) (hM : Nat.blt 2 M = true) : Has M [] { tmps := #[v, u, x] ++ Array.replicate (M - (#[v, u, x] : Array Value).size) undef, defers := [] } [(0, v), (1, u), (2, x)] where
 size := by
  have : 2 < M := by simpa [Nat.blt_eq] using hM
  simp; omega
 defers := rfl
 get := by
  have h : ∀ k y, look [(0, v), (1, u), (2, x)] k = some y → (#[v, u, x] : Array Value)[k]? = some y := by
   intro k y hk
   match k, hk with
   | 0, hk => exact hk
   | 1, hk => exact hk
   | 2, hk => exact hk
   | k + 3, hk => cases hk
  intro k y hk
  have h1 := h k y hk
  have hlt : k < (#[v, u, x] : Array Value).size := (Array.getElem?_eq_some_iff.1 h1).1
  rw [Array.getElem?_append_left hlt]
  exact h1
theorem enterC3 {P : Program} {f : FuncId} {fn : Func} {c : Code} {M : Nat} {R : Ending → World → Prop} {w : World} {u : FrameMode} {v x y : Value} (hf : P.funcs[f]? = some fn) (hb : fn.body = some c) (hn : fn.ntmps = M) (hM : Nat.blt 2 M = true) (h : ∀ a, Has M [] a [(0, v), (1, x), (2, y)] → c.wp P (bodyPost P fn R) a w) : CallsD P f #[v, x, y] u w fun e u' w' => u' = u ∧ R e w' :=
 callsD_of_wp hf hb (by rw [hn]; exact h _ (Has.enter3 v x y hM))
theorem enterC1 {P : Program} {f : FuncId} {fn : Func} {c : Code} {M : Nat} {R : Ending → World → Prop} {w : World} {u : FrameMode} {v : Value} (hf : P.funcs[f]? = some fn) (hb : fn.body = some c) (hn : fn.ntmps = M) (hM : Nat.blt 0 M = true) (h : ∀ a, Has M [] a [(0, v)] → c.wp P (bodyPost P fn R) a w) : CallsD P f #[v] u w fun e u' w' => u' = u ∧ R e w' :=
 callsD_of_wp hf hb (by rw [hn]; exact h _ (Has.enter1 v hM))
theorem enterD1 {P : Program} {f : FuncId} {fn : Func} {c : Code} {M : Nat} {R : Ending → World → Prop} {w : World} {v : Value} (hf : P.funcs[f]? = some fn) (hb : fn.body = some c) (hn : fn.ntmps = M) (hM : Nat.blt 0 M = true) (h : ∀ a, Has M [] a [(0, v)] → c.wp P (bodyPostD P fn R) a w) : Calls P f #[v] w R :=
 calls_of_wp_defers hf hb (by rw [hn]; exact h _ (Has.enter1 v hM))
section
variable {N : Nat} {D : List Deferred} {a : Act} {l : List (Nat × Value)} {P : Program} {L rest : List Oper} {Q : Exit → Act → World → Prop} {w : World} {d : Nat} {ty : TypeId} {pos : String} {af : Array Edge}
theorem y_boxRow {t : TypeId} {x : Operand} {v : Value} (hv : v.cells = #[v]) (H : Has N D a l) (hx : ev l x = some v) (hd : Nat.blt d N = true)
  (h : ∀ w', RowAt w' w.heap.size [v] → Below w.heap.size w w' → w'.heap.size = w.heap.size + 1 → ∀ a, Has N D a ((d, .pointer (some ⟨w.heap.size, 0, none⟩)) :: l) → wpList P L.toArray Q rest a w') : wpList P L.toArray Q (⟨some d, .box t x, ty, pos, af, none⟩ :: rest) a w :=
 y_wp H hd (w' := w.alloc (.cells #[v] t)) (v := .pointer (some ⟨w.heap.size, 0, none⟩)) (by have h1 := H.ev hx; simp [execOp, h1, Instr.box, newVar, newRow, hv, Result.andThen]) (h _ (rowAt_new (heap_alloc_new w _)) ((Below.refl _ w).alloc (Nat.le_refl _) _) (size_allocT w _))
theorem y_makeFunc {fn : Fn} {cap : List Operand} {vs : List Value} (H : Has N D a l) (hc : evs l cap = some vs) (hd : Nat.blt d N = true)
  (h : ∀ a, Has N D a ((d, .func fn #[] vs.toArray) :: l) → wpList P L.toArray Q rest a w) : wpList P L.toArray Q (⟨some d, .makeFunc fn #[] cap.toArray, ty, pos, af, none⟩ :: rest) a w :=
 y_wp H hd (by have h1 := H.evs hc; simp [execOp, Instr.makeFunc, h1]) h
end
section
variable {N : Nat} {D : List Deferred} {a : Act} {l : List (Nat × Value)} {L rest : List Oper} {Q : Exit → Act → World → Prop} {w : World} {d : Nat} {ty : TypeId} {pos : String} {af : Array Edge}
theorem y_eqNil {x : Operand} {v : Value} {b : Bool} (H : Has N D a l) (hx : ev l x = some v) (hb : (v = .nilIface ∧ b = true) ∨ (∃ te xe, v = .iface te xe ∧ b = false)) (hd : Nat.blt d N = true)
  (h : ∀ a, Has N D a ((d, .bool b) :: l) → wpList Tryz.prog L.toArray Q rest a w) : wpList Tryz.prog L.toArray Q (⟨some d, .binOp .eql 52 x (.const .nilIface) 52, ty, pos, af, none⟩ :: rest) a w :=
 y_wp H hd (by
  have h1 := H.ev hx
  rcases hb with ⟨rfl, rfl⟩ | ⟨te, xe, rfl, rfl⟩ <;> (simp only [execOp, h1]; simp [go_sem])) h
end
theorem onePtr : OneCell Tryz.prog 43 := fun w => by simp [isAgg, Sem.run_bind, go_sem]
theorem alloc_err : AllocIs Tryz.prog 52 #[.nilIface] := fun w => by simp [go_sem, Instr.alloc, newVar, newRow]
theorem err_size : (Tryz.prog.info? 52).map (·.size) = some 1 := by kernel_rfl
theorem u8_size : (Tryz.prog.info? 5).map (·.size) = some 1 := by kernel_rfl
theorem fld_ta : FieldIs Tryz.prog 50 1 1 := fun p w => by simp [go_sem, Instr.fieldAt]
theorem fld_tk : FieldIs Tryz.prog 50 0 0 := fun p w => by simp [go_sem, Instr.fieldAt]
theorem fld_call : FieldIs Tryz.prog 59 0 0 := fun p w => by simp [go_sem, Instr.fieldAt]
theorem fld_tok : FieldIs Tryz.prog 59 1 1 := fun p w => by simp [go_sem, Instr.fieldAt]
theorem fld_err : FieldIs Tryz.prog 59 2 7 := fun p w => by simp [go_sem, Instr.fieldAt]
theorem results_two {fn : Func} {t u : Tmp} (h : fn.results = #[.cell t 50, .cell u 52]) (tmps : Array Value) (w : World) (q k : Nat) (c0 c1 c2 c3 c4 c5 v : Value)
  (hp : tmps.getD t undef = .pointer (some ⟨q, 0, none⟩)) (hu : tmps.getD u undef = .pointer (some ⟨k, 0, none⟩)) (hc : RowAt w q [c0, c1, c2, c3, c4, c5]) (hv : w.cell? ⟨k, 0, none⟩ = some v) :
  (results fn tmps).run Tryz.prog w = .ok (.tuple #[.agg #[c0, c1, c2, c3, c4, c5], v]) w := by
 have h1 := run_loadVar_at (P := Tryz.prog) w q 0 50 [c0, c1, c2, c3, c4, c5] _ (fun j u hu => by rw [Nat.zero_add]; exact (hc j u hu).1) Tryz.underlying50 (by rfl) (by kernel_rfl)
 have h2 : (loadVar 52 ⟨k, 0, none⟩).run Tryz.prog w = .ok v w := by
  have h3 := oneErr w
  simp [loadVar, Sem.run_bind, h3, hv, Result.andThen]
 have hp' : tmps[t]?.getD undef = .pointer (some ⟨q, 0, none⟩) := by simpa using hp
 have hu' : tmps[u]?.getD undef = .pointer (some ⟨k, 0, none⟩) := by simpa using hu
 simp [results, h, hp', hu', asAddr, h1, h2, Result.andThen]
theorem pf_try : PlainFn Tryz.prog 50 := ⟨_, Tryz.func50, by kernel_rfl, by kernel_rfl⟩
end Go.Proofs.YtgdnpnipahegaaaGreatDoor
