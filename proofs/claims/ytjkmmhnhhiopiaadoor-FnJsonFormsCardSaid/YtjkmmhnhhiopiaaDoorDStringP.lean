/-
  The package's reader of JSON, walked: what the walk of a string wants: what slices, strings, appends and calls leave.
-/
import Derived.Test.YtjkmmhnhhiopiaaDoorDOut
import Derived.Test.YtjkmmhnhhiopiaaDoorDParts
import Derived.Test.YtjkmmhnhhiopiaaDoorDHex
import Derived.Test.YtjkmmhnhhiopiaaDoorDCE
import Derived.Test.YtjkmmhnhhiopiaaDoorGuard
import Derived.Test.YtjkmmhnhhiopiaaDoorSym
import Derived.FnLit
import Derived.Test.YtjkmmhnhhiopiaaDoorDState
namespace Go.Proofs.YtjkmmhnhhiopiaaDoor
open Go.ChangeShapes Go.WideShapes Go.ChangeAt Go.RowKit

theorem u8_small {l : List UInt8} {c n : Nat} (h : u8char l = some (c, n)) (hc : c < 128) : ∃ b l2, l = b :: l2 ∧ b.toNat = c ∧ n = 1 := by
  cases l with
  | nil => cases h
  | cons b l2 =>
    by_cases h1 : b.toNat < 128
    · rw [u8char_cons, if_pos h1] at h; cases h; exact ⟨b, l2, rfl, rfl, rfl⟩
    · rw [u8char_cons, if_neg h1] at h
      rcases hh : u8head b.toNat with _ | ⟨k, least, first⟩
      · rw [hh] at h; cases h
      · rw [hh] at h
        simp only at h
        have hk := u8head_le hh
        rcases ht : u8take k first l2 with _ | v'
        · rw [ht] at h; cases h
        · rw [ht] at h
          simp only at h
          split at h
          · rename_i hok
            cases h
            unfold u8ok at hok
            simp at hok
            omega
          · cases h
theorem u8_one {l : List UInt8} {c n : Nat} (h : u8char l = some (c, n)) (hn : n = 1) : c < 128 := by
  cases l with
  | nil => cases h
  | cons b l2 =>
    by_cases h1 : b.toNat < 128
    · rw [u8char_cons, if_pos h1] at h; cases h; exact h1
    · rw [u8char_cons, if_neg h1] at h
      rcases hh : u8head b.toNat with _ | ⟨k, least, first⟩
      · rw [hh] at h; cases h
      · rw [hh] at h
        simp only at h
        have hk := u8head_le hh
        rcases ht : u8take k first l2 with _ | v'
        · rw [ht] at h; cases h
        · rw [ht] at h
          simp only at h
          split at h
          · cases h; omega
          · cases h
theorem chr_bad {l : List UInt8} (h : chr l = (65533, 1)) : u8char l = none := by
  rcases hu : u8char l with _ | ⟨c, n⟩
  · rfl
  · have : chr l = (c, n) := by unfold chr; rw [hu]
    rw [this] at h
    injection h with h1 h2
    have := u8_one hu h2
    omega

def StrRes (o : Option (List UInt8 × Nat)) (e : Ending) : Prop := match o with
  | some (t, n) => e = .returned (.tuple #[.string ⟨t.toArray⟩, .int .i64 (n : Int), .nilIface])
  | none => ∃ te x, e = .returned (.tuple #[.string ⟨#[]⟩, .int .i64 0, .iface te x])
theorem StrRes.bad {o : Option (List UInt8 × Nat)} (h : o = none) (te : TypeId) (x : Value) : StrRes o (.returned (.tuple #[.string ⟨#[]⟩, .int .i64 0, .iface te x])) := by rw [h]; exact ⟨te, x, rfl⟩
def slen : Value → Nat
  | .slice _ n _ => n
  | _ => 0

theorem slen_view {w : World} {g : Nat} {v : Value} {bs : List UInt8} (h : View w g v bs) : slen v = bs.length := by
  obtain ⟨ao, cp, rfl⟩ := h.slice
  rfl
theorem slen_lt {w w' : World} {g g' : Nat} {v v' : Value} {a b : List UInt8} (h : View w g v a) (h' : View w' g' v' b) (hl : a.length < b.length) : slen v < slen v' := by
  rw [slen_view h, slen_view h']; exact hl
theorem escU_short {b d : UInt8} {l : List UInt8} (h : l.length < 4) : escU (b :: d :: l) = none := by unfold escU; rw [if_pos (by simp; omega)]
theorem escU_hex {b d : UInt8} {l : List UInt8} (h : ¬ l.length < 4) : escU (b :: d :: l) = (match hexN 0 (l.take 4) with
  | none => none
  | some v => if surrB v = false then some (encU v, 6)
    else if (b :: d :: l).length < 12 then none
    else match hexN 0 (((b :: d :: l).drop 8).take 4) with
    | none => none
    | some u => if ((b :: d :: l).getD 6 0).toNat = 92 ∧ ((b :: d :: l).getD 7 0).toNat = 117 ∧ pairR v u ≠ 65533 then some (encU (pairR v u), 12) else none) := by
  unfold escU; rw [if_neg (by simp; omega)]; rfl
theorem escU_bad {b d : UInt8} {l : List UInt8} (h : ¬ l.length < 4) (hx : hexN 0 (l.take 4) = none) : escU (b :: d :: l) = none := by rw [escU_hex h, hx]
theorem escU_one {b d : UInt8} {l : List UInt8} {v : Nat} (h : ¬ l.length < 4) (hx : hexN 0 (l.take 4) = some v) (hs : surrB v = false) : escU (b :: d :: l) = some (encU v, 6) := by
  rw [escU_hex h, hx]; simp only; rw [if_pos hs]
theorem escU_short2 {b d : UInt8} {l : List UInt8} {v : Nat} (h : ¬ l.length < 4) (hx : hexN 0 (l.take 4) = some v) (hs : surrB v = true) (h2 : (l.drop 4).length < 6) : escU (b :: d :: l) = none := by
  rw [escU_hex h, hx]; simp only; rw [if_neg (by rw [hs]; decide), if_pos (by simp at h2 ⊢; omega)]
theorem escU_more {b d e f : UInt8} {l l5 : List UInt8} {v : Nat} (h : ¬ l.length < 4) (hx : hexN 0 (l.take 4) = some v) (hs : surrB v = true) (h4 : l.drop 4 = e :: f :: l5) (h5 : 4 ≤ l5.length) : escU (b :: d :: l) = (match hexN 0 (l5.take 4) with
    | none => none
    | some u => if e.toNat = 92 ∧ f.toNat = 117 ∧ pairR v u ≠ 65533 then some (encU (pairR v u), 12) else none) := by
  have hl : l.length = l5.length + 6 := by have := congrArg List.length h4; simp at this; omega
  have hd : (b :: d :: l).drop 8 = l5 := by
    show l.drop 6 = l5
    rw [show 6 = 4 + 2 from rfl, ← List.drop_drop, h4]; rfl
  have he : (b :: d :: l).getD 6 0 = e := by
    have := congrArg (fun x => x.getD 0 0) h4
    simpa [List.getD_eq_getElem?_getD] using this
  have hf : (b :: d :: l).getD 7 0 = f := by
    have := congrArg (fun x => x.getD 1 0) h4
    simpa [List.getD_eq_getElem?_getD] using this
  rw [escU_hex h, hx]; simp only; rw [if_neg (by rw [hs]; decide), if_neg (by simp; omega), hd, he, hf]
theorem escC_no {d : Nat} (h : d ≠ 34 ∧ d ≠ 92 ∧ d ≠ 47 ∧ d ≠ 98 ∧ d ≠ 102 ∧ d ≠ 110 ∧ d ≠ 114 ∧ d ≠ 116) : escC d = 0 := by
  unfold escC
  rw [if_neg (by omega), if_neg (by omega), if_neg (by omega), if_neg (by omega), if_neg (by omega), if_neg (by omega)]
theorem enc_str {c : Nat} (h : c < 55296 ∨ 57344 ≤ c ∧ c ≤ 1114111) : Utf8.encode (c : Int) = ⟨(encU c).toArray⟩ := by
  have hv : Utf8.valid (c : Int) = true := by unfold Utf8.valid; simp; omega
  unfold Utf8.encode encU
  simp only [hv, if_true, Int.toNat_natCast]
  repeat' split
  all_goals first | rfl | omega
theorem encU_pos (c : Nat) : 1 ≤ (encU c).length := by
  unfold encU
  split
  · simp
  · split
    · simp
    · split <;> simp
theorem pairR_zero (v : Nat) : pairR v 0 = 65533 := by unfold pairR; rw [if_neg (by omega)]
theorem pairR_ok {v u : Nat} (h : pairR v u ≠ 65533) : 57344 ≤ pairR v u ∧ pairR v u ≤ 1114111 := by
  unfold pairR at h ⊢
  split
  · omega
  · rename_i hn; rw [if_neg hn] at h; exact absurd rfl h
theorem view_cells {w : World} {g : Nat} {ao : Option Addr} {m cp : Nat} {bs : List UInt8} (hv : View w g (.slice ao m cp) bs) (hne : 1 ≤ bs.length) : ∃ ad : Addr, ao = some ad ∧ ∀ j u, (byteCells bs)[j]? = some u → w.cell? (ad.add j) = some u := by
  obtain ⟨ao', cap, he, h3, h4, hn0, off, h5, h6⟩ := hv
  injection he with e1 e2 e3
  subst e1 e2 e3
  refine ⟨⟨g, off, none⟩, h5 (by intro e; rw [e] at hne; simp at hne), fun j u hu => ?_⟩
  have hj : j < bs.length := by have := (List.getElem?_eq_some_iff.1 hu).1; simpa [byteCells] using this
  rw [Addr.add_lit, h6 j hj, ← hu]
  simp [byteCells, hj]
theorem take_pos {l : List UInt8} {n : Nat} (h1 : 1 ≤ n) (h2 : n ≤ l.length) : 1 ≤ (l.take n).length := by rw [List.length_take]; omega
theorem wrap_small {n i m k : Nat} (hm : k ≤ 10000000) (hl : m ≤ k) (h : n + i ≤ m) : IntKind.i64.wrap ((n : Int) + (i : Int)) = (n : Int) + (i : Int) := wraps_i64' _ (by omega) (by omega)
theorem View.keptB {w w' : World} {g B : Nat} {v : Value} {bs : List UInt8} (h : View w g v bs) (hb : Below B w w') (hg : g < B) : View w' g v bs := h.kept (hb.block g hg)
theorem strJ_no {c : UInt8} {r : List UInt8} (h : strA r [] = none) : strJ (c :: r) = none := by rw [strJ_cons, h]
theorem rowZ {w : World} {q : Nat} {cs : Array Value} {t : TypeId} (h : w.heap[q]? = some (.cells cs t (0, 0))) : RowAt w q cs.toList := fun j u hu => by
  have hj : cs[j]? = some u := by simpa using hu
  exact ⟨by rw [cell_of_row w q j cs t (0, 0) h]; exact hj, by simp [World.frozen?, h]⟩
theorem one22Z : OneCell Tryd.prog 28 := fun w => by simp [isAgg, Sem.run_bind, go_sem]
theorem one5Z : OneCell Tryd.prog 5 := fun w => by simp [isAgg, Sem.run_bind, go_sem]
theorem oneErrZ : OneCell Tryd.prog 72 := fun w => by simp [isAgg, Sem.run_bind, go_sem]
theorem mixedZ : Tryd.prog.follows .mixedOrders = true := by kernel_rfl
section
variable {N : Nat} {D : List Deferred} {a : Act} {l : List (Nat × Value)} {L rest : List Oper} {Q : Exit → Act → World → Prop} {w : World} {d : Nat} {ty : TypeId} {pos : String} {af : Array Edge}
/-- v[m:n] -/
theorem y_both {x i j : Operand} {g m n : Nat} {mi ni : Int} {v : Value} {bs ys : List UInt8} {k k' : IntKind} (H : Has N D a l) (hx : ev l x = some v) (hi : ev l i = some (.int k mi)) (hj : ev l j = some (.int k' ni)) (hv : View w g v bs) (hm : mi = (m : Int)) (hn : ni = (n : Int)) (hmn : m ≤ n) (hl : n ≤ bs.length) (he : (bs.drop m).take (n - m) = ys) (hd : Nat.blt d N = true)
    (h : ∀ a v', Has N D a ((d, v') :: l) → View w g v' ys → wpList Tryd.prog L.toArray Q rest a w) : wpList Tryd.prog L.toArray Q (⟨some d, .slice 28 x (some i) (some j) none, ty, pos, af, none⟩ :: rest) a w := by
  subst hm hn he
  exact wpList_slice_view w (by rfl) x i j 28 5 rfl Tryd.underlying28 info5u g v bs (H.ev hx) hv k k' _ _ (H.ev hi) (H.ev hj) (by omega) (by omega) (by omega) fun v' hv' => h _ v' (H.put hd) hv'
/-- v[m:] -/
theorem y_fromN {x i : Operand} {g m : Nat} {mi : Int} {v : Value} {bs ys : List UInt8} {k : IntKind} (H : Has N D a l) (hx : ev l x = some v) (hi : ev l i = some (.int k mi)) (hv : View w g v bs) (hm : mi = (m : Int)) (hl : m ≤ bs.length) (he : bs.drop m = ys) (hd : Nat.blt d N = true)
    (h : ∀ a v', Has N D a ((d, v') :: l) → View w g v' ys → wpList Tryd.prog L.toArray Q rest a w) : wpList Tryd.prog L.toArray Q (⟨some d, .slice 28 x (some i) none none, ty, pos, af, none⟩ :: rest) a w := by
  subst hm he
  exact wpList_slice_from w (by rfl) x i 28 5 rfl Tryd.underlying28 info5u g v bs (H.ev hx) hv k _ (H.ev hi) (by omega) (by omega) fun v' hv' => h _ v' (H.put hd) hv'
/-- string(v) -/
theorem y_conv {x : Operand} {g : Nat} {v : Value} {bs : List UInt8} (H : Has N D a l) (hx : ev l x = some v) (hv : View w g v bs) (hd : Nat.blt d N = true)
    (h : ∀ a, Has N D a ((d, .string ⟨bs.toArray⟩) :: l) → wpList Tryd.prog L.toArray Q rest a w) : wpList Tryd.prog L.toArray Q (⟨some d, .convert 28 9 x, ty, pos, af, none⟩ :: rest) a w :=
  wpList_string_view w (by rfl) x 28 9 5 rfl Tryd.underlying28 Tryd.underlying5 Tryd.underlying9 g v bs (H.ev hx) hv (h _ (H.put hd))
theorem y_convOut {x : Operand} {B : Nat} {v : Value} {bs : List UInt8} (H : Has N D a l) (hx : ev l x = some v) (hv : OutV w B 5 v bs) (hd : Nat.blt d N = true)
    (h : ∀ a, Has N D a ((d, .string ⟨bs.toArray⟩) :: l) → wpList Tryd.prog L.toArray Q rest a w) : wpList Tryd.prog L.toArray Q (⟨some d, .convert 28 9 x, ty, pos, af, none⟩ :: rest) a w :=
  wpList_string_out w (by rfl) x 28 9 5 rfl Tryd.underlying28 Tryd.underlying5 Tryd.underlying9 B v bs (H.ev hx) hv (h _ (H.put hd))
theorem y_convRune {x : Operand} {c : Int} {bs : List UInt8} (H : Has N D a l) (hx : ev l x = some (.int .i32 c)) (he : Utf8.encode c = ⟨bs.toArray⟩) (hd : Nat.blt d N = true)
    (h : ∀ a, Has N D a ((d, .string ⟨bs.toArray⟩) :: l) → wpList Tryd.prog L.toArray Q rest a w) : wpList Tryd.prog L.toArray Q (⟨some d, .convert 21 9 x, ty, pos, af, none⟩ :: rest) a w :=
  y_wp H hd (by
    have h1 := H.ev hx
    have h2 : (convert 21 9 (.int .i32 c)).run Tryd.prog w = .ok (.string ⟨bs.toArray⟩) w := by rw [← he]; simp [convert, run_underlying Tryd.underlying21, run_underlying Tryd.underlying9, Sem.run_bind, go_sem, Conv.intToString]
    simp only [execOp, h1]
    simp [h2, Result.andThen]) h
theorem run_cvt {P : Program} {src dst : TypeId} {q q' : IntKind} {n : Int} (hs : P.underlying src = some (.int q)) (hds : P.underlying dst = some (.int q')) (hn : q'.wrap n = n) (w : World) : (convert src dst (.int q n)).run P w = .ok (.int q' n) w := by simp [convert, run_underlying hs, run_underlying hds, hn, Conv.intToInt, Sem.run_bind]
theorem y_cvt {src dst : TypeId} {q q' : IntKind} {x : Operand} {n : Int} (hs : Tryd.prog.underlying src = some (.int q)) (hds : Tryd.prog.underlying dst = some (.int q')) (H : Has N D a l) (hx : ev l x = some (.int q n)) (hn : q'.wrap n = n) (hd : Nat.blt d N = true)
    (h : ∀ a, Has N D a ((d, .int q' n) :: l) → wpList Tryd.prog L.toArray Q rest a w) : wpList Tryd.prog L.toArray Q (⟨some d, .convert src dst x, ty, pos, af, none⟩ :: rest) a w :=
  y_wp H hd (by
    have h1 := H.ev hx
    simp only [execOp, h1]
    simp [run_cvt hs hds hn w, Result.andThen]) h
theorem w_i32 {n : Int} (h0 : 0 ≤ n) (h1 : n < 2147483648) : IntKind.i32.wrap n = n := IntWalk.i32_in n ⟨by omega, by omega⟩
theorem w_u8 {n : Int} (h0 : 0 ≤ n) (h1 : n < 256) : IntKind.u8.wrap n = n := IntWalk.u8_in n ⟨by omega, by omega⟩
/-- []byte{c} -/
theorem y_oneS {x : Operand} {c : Int} (H : Has N D a l) (hx : ev l x = some (.int .u8 c)) (hd : Nat.blt d N = true)
    (h : ∀ w' q, RowAt w' q [.int .u8 c] → Below w.heap.size w w' → ∀ a, Has N D a ((d, .slice (some ⟨q, 0, none⟩) 1 1) :: l) → wpList Tryd.prog L.toArray Q rest a w') : wpList Tryd.prog L.toArray Q (⟨some d, .buildSlice 28 1 #[(0, x)], ty, pos, af, none⟩ :: rest) a w :=
  y_wp H hd (w' := w.alloc (.cells #[.int .u8 c] 5)) (v := .slice (some ⟨w.heap.size, 0, none⟩) 1 1) (r_bs1 Tryd.underlying28 info5u H hx) (h _ _ (rowZ (heap_alloc_new w _)) ((Below.refl _ w).alloc (Nat.le_refl _) _))
/-- append(out, ..) -/
theorem y_outRun {x y : Operand} {B m c : Nat} {v : Value} {bs ys : List UInt8} {ad : Addr} (H : Has N D a l) (hx : ev l x = some v) (hout : OutV w B 5 v bs) (hy : ev l y = some (.slice (some ad) m c)) (hl : ys.length = m) (hm : 1 ≤ m) (hc : ∀ j u, (byteCells ys)[j]? = some u → w.cell? (ad.add j) = some u) (hB : B ≤ w.heap.size) (hlen : bs.length + m ≤ 140737488355328) (hd : Nat.blt d N = true)
    (h : ∀ v' w', OwnB w' B 5 v' (bs ++ ys) → Below B w w' → ∀ a, Has N D a ((d, v') :: l) → wpList Tryd.prog L.toArray Q rest a w') :
    wpList Tryd.prog L.toArray Q (⟨some d, .call { callee := .builtin .append, args := #[x, y], argTypes := #[28, 28] }, 28, pos, af, none⟩ :: rest) a w := by
  obtain ⟨v', w', hr, h2, h3⟩ := run_append_out (P := Tryd.prog) w 28 28 5 Tryd.underlying28 info5u B hB v bs hout ad m c ys hl hm hc hlen
  refine wpList_plain rfl fun K hK => ?_
  have e1 := H.ev hx
  have e2 := H.ev hy
  unfold Oper.wp execOp
  simp only [resolve, invoke, builtin, Sem.run_bind, Sem.run_pure, Result.andThen_ok, List.map_toArray, List.map_cons, List.map_nil, e1, e2, hr]
  exact hK _ _ (h v' w' h2 h3 _ (H.put hd))
theorem y_out1 {x y : Operand} {B q : Nat} {v : Value} {bs : List UInt8} (c : UInt8) (H : Has N D a l) (hx : ev l x = some v) (hout : OutV w B 5 v bs) (hy : ev l y = some (.slice (some ⟨q, 0, none⟩) 1 1)) (hr : RowAt w q [.int .u8 (c.toNat : Int)]) (hB : B ≤ w.heap.size) (hlen : bs.length + 1 ≤ 140737488355328) (hd : Nat.blt d N = true)
    (h : ∀ v' w', OwnB w' B 5 v' (bs ++ [c]) → Below B w w' → ∀ a, Has N D a ((d, v') :: l) → wpList Tryd.prog L.toArray Q rest a w') :
    wpList Tryd.prog L.toArray Q (⟨some d, .call { callee := .builtin .append, args := #[x, y], argTypes := #[28, 28] }, 28, pos, af, none⟩ :: rest) a w :=
  y_outRun H hx hout hy rfl (Nat.le_refl 1) (fun j u hj => by
    match j, hj with
    | 0, hj =>
      simp [byteCells] at hj
      subst hj
      rw [Addr.add_lit]
      exact (hr 0 _ rfl).1) hB hlen hd h
theorem y_outV {x y : Operand} {B g : Nat} {v u : Value} {bs ys : List UInt8} (H : Has N D a l) (hx : ev l x = some v) (hout : OutV w B 5 v bs) (hy : ev l y = some u) (hv : View w g u ys) (hne : 1 ≤ ys.length) (hB : B ≤ w.heap.size) (hlen : bs.length + ys.length ≤ 140737488355328) (hd : Nat.blt d N = true)
    (h : ∀ v' w', OwnB w' B 5 v' (bs ++ ys) → Below B w w' → ∀ a, Has N D a ((d, v') :: l) → wpList Tryd.prog L.toArray Q rest a w') :
    wpList Tryd.prog L.toArray Q (⟨some d, .call { callee := .builtin .append, args := #[x, y], argTypes := #[28, 28] }, 28, pos, af, none⟩ :: rest) a w := by
  obtain ⟨ao, c, rfl⟩ := hv.slice
  obtain ⟨ad, rfl, hc⟩ := view_cells hv hne
  exact y_outRun H hx hout hy rfl hne hc hB hlen hd h
theorem y_outS {x y : Operand} {B : Nat} {v : Value} {bs ys : List UInt8} (H : Has N D a l) (hx : ev l x = some v) (hout : OutV w B 5 v bs) (hy : ev l y = some (.string ⟨ys.toArray⟩)) (hne : 1 ≤ ys.length) (hB : B ≤ w.heap.size) (hlen : bs.length + ys.length ≤ 140737488355328) (hd : Nat.blt d N = true)
    (h : ∀ v' w', OwnB w' B 5 v' (bs ++ ys) → Below B w w' → ∀ a, Has N D a ((d, v') :: l) → wpList Tryd.prog L.toArray Q rest a w') :
    wpList Tryd.prog L.toArray Q (⟨some d, .call { callee := .builtin .append, args := #[x, y], argTypes := #[28, 9] }, ty, pos, af, none⟩ :: rest) a w :=
  wpList_append_out_str w rfl x y 28 9 rfl 5 Tryd.underlying28 Tryd.underlying9 info5u B hB v bs (H.ev hx) hout ys (H.ev hy) hne hlen fun v' w' h1 h2 => h v' w' h1 h2 _ (H.put hd)
theorem infoAnyS : (Tryd.prog.info? 20).map (fun i => (i.zero, i.size, i.bytes)) = some (some .nilIface, 1, 16) := by kernel_rfl
/-- []any{x} -/
theorem y_anyS {x : Operand} {t : TypeId} {v : Value} (H : Has N D a l) (hx : ev l x = some (.iface t v)) (hd : Nat.blt d N = true)
    (h : ∀ w' u, Below w.heap.size w w' → ∀ a, Has N D a ((d, u) :: l) → wpList Tryd.prog L.toArray Q rest a w') : wpList Tryd.prog L.toArray Q (⟨some d, .buildSlice 107 1 #[(0, x)], ty, pos, af, none⟩ :: rest) a w := by
  obtain ⟨inf, hi1, hz, hz1, hz2⟩ : ∃ i, Tryd.prog.info? 20 = some i ∧ i.zero = some .nilIface ∧ i.size = 1 ∧ i.bytes = 16 := by
    have := infoAnyS
    cases hi : Tryd.prog.info? 20 with
    | none => rw [hi] at this; cases this
    | some i => rw [hi] at this; simp at this; exact ⟨i, rfl, this.1, this.2.1, this.2.2⟩
  have h1 := H.ev hx
  have := run_buildSlice (P := Tryd.prog) w 107 20 1 #[(0, .iface t v)] #[.iface t v] inf .nilIface Tryd.underlying107 hi1 hz (by rw [hz1]; decide) (by rw [hz1]; decide) (by rw [hz1]; kernel_rfl)
  refine y_wp H hd (v := .slice (some ⟨w.heap.size, 0, none⟩) 1 1) (w' := w.alloc (.cells #[.iface t v] 20)) (by simp [execOp, h1, this, Result.andThen]) ?_
  exact h _ _ ((Below.refl _ w).alloc (Nat.le_refl _) _)
theorem y_mkZ {P : Program} {t : TypeId} {x : Operand} {v : Value} {ds : TypeDesc} (hu : P.underlying t = some ds) (hds : (match ds with | .interface _ => false | _ => true) = true) (H : Has N D a l) (hx : ev l x = some v) (hd : Nat.blt d N = true)
    (h : ∀ a, Has N D a ((d, .iface t v) :: l) → wpList P L.toArray Q rest a w) : wpList P L.toArray Q (⟨some d, .makeInterface t x, ty, pos, af, none⟩ :: rest) a w :=
  y_wp H hd (by
    have h1 := H.ev hx
    simp only [execOp, h1]
    cases ds <;> simp_all [Instr.makeInterface, run_underlying hu, Sem.run_bind, Result.andThen]) h
theorem y_neZ {x : Operand} {v : Value} {b : Bool} (H : Has N D a l) (hx : ev l x = some v) (hb : (v = .nilIface ∧ b = false) ∨ (∃ te xe, v = .iface te xe ∧ b = true)) (hd : Nat.blt d N = true)
    (h : ∀ a, Has N D a ((d, .bool b) :: l) → wpList Tryd.prog L.toArray Q rest a w) : wpList Tryd.prog L.toArray Q (⟨some d, .binOp .neq 72 x (.const .nilIface) 72, ty, pos, af, none⟩ :: rest) a w :=
  y_wp H hd (by
    have h1 := H.ev hx
    rcases hb with ⟨rfl, rfl⟩ | ⟨te, xe, rfl, rfl⟩ <;> (simp only [execOp, h1]; simp [go_sem])) h
variable {P : Program} {S : World → Prop} {dd : Option Tmp} {gd : Option (Nat × Bool)}
theorem r_fromZ {t e : TypeId} {x i : Operand} {v v' : Value} {k : IntKind} {n : Int} (ht : P.underlying t = some (.slice e)) (H : Has N D a l) (hx : ev l x = some v) (hi : ev l i = some (.int k n)) (hr : ∀ W, (Instr.slice t v (some (.int k n)) none none).run P W = .ok v' W) :
    ∀ w, S w → (execOp a.eval ⟨dd, .slice t x (some i) none none, ty, pos, af, gd⟩).run P w = .ok (.value v') w := fun w _ => by
  have h1 := H.ev hx
  have h3 := H.ev hi
  have hs : P.underlying t = some (.slice (P.elem t)) := by simp [Program.elem, ht]
  simp [execOp, h1, h3, run_sliceAt_slice w t _ _ _ _ hs, hr w, Result.andThen]
theorem r_uptoZ {t e : TypeId} {x i : Operand} {v v' : Value} {k : IntKind} {n : Int} (ht : P.underlying t = some (.slice e)) (H : Has N D a l) (hx : ev l x = some v) (hi : ev l i = some (.int k n)) (hr : ∀ W, (Instr.slice t v none (some (.int k n)) none).run P W = .ok v' W) :
    ∀ w, S w → (execOp a.eval ⟨dd, .slice t x none (some i) none, ty, pos, af, gd⟩).run P w = .ok (.value v') w := fun w _ => by
  have h1 := H.ev hx
  have h3 := H.ev hi
  have hs : P.underlying t = some (.slice (P.elem t)) := by simp [Program.elem, ht]
  simp [execOp, h1, h3, run_sliceAt_slice w t _ _ _ _ hs, hr w, Result.andThen]
theorem r_fullZ {t e : TypeId} {x i j : Operand} {v v' : Value} {k k' : IntKind} {n m : Int} (ht : P.underlying t = some (.slice e)) (H : Has N D a l) (hx : ev l x = some v) (hi : ev l i = some (.int k n)) (hj : ev l j = some (.int k' m)) (hr : ∀ W, (Instr.slice t v none (some (.int k n)) (some (.int k' m))).run P W = .ok v' W) :
    ∀ w, S w → (execOp a.eval ⟨dd, .slice t x none (some i) (some j), ty, pos, af, gd⟩).run P w = .ok (.value v') w := fun w _ => by
  have h1 := H.ev hx
  have h3 := H.ev hi
  have h4 := H.ev hj
  have hs : P.underlying t = some (.slice (P.elem t)) := by simp [Program.elem, ht]
  simp [execOp, h1, h3, h4, run_sliceAt_slice w t _ _ _ _ hs, hr w, Result.andThen]
theorem r_lenZ {t e : TypeId} {x : Operand} {ao : Option Addr} {n c : Nat} (ht : P.underlying t = some (.slice e)) (H : Has N D a l) (hx : ev l x = some (.slice ao n c)) : ∀ w, S w → (execOp a.eval ⟨dd, .call { callee := .builtin .len, args := #[x], argTypes := #[t] }, ty, pos, af, gd⟩).run P w = .ok (.value (.int .i64 (n : Int))) w := fun w _ => by
  have h1 := H.ev hx
  simp [execOp, resolve, invoke, builtin, h1, Builtin.len_, run_underlying ht, goInt]
theorem r_addZ {t t' : TypeId} {x y : Operand} {m n r : Int} (H : Has N D a l) (hx : ev l x = some (.int .i64 m)) (hy : ev l y = some (.int .i64 n)) (hr : m + n = r) (h0 : -9223372036854775808 ≤ r) (h1 : r ≤ 9223372036854775807) : ∀ w, S w → (execOp a.eval ⟨dd, .binOp .add t x y t', ty, pos, af, gd⟩).run P w = .ok (.value (.int .i64 r)) w := fun w _ => by
  have h2 := H.ev hx
  have h3 := H.ev hy
  have h4 := wrap_in h0 h1
  rw [← hr] at h4 ⊢
  simp only [execOp, h2, h3]
  simp [go_sem, h4]
theorem r_cvtZ {src dst : TypeId} {q q' : IntKind} {x : Operand} {n : Int} (hs : P.underlying src = some (.int q)) (hds : P.underlying dst = some (.int q')) (H : Has N D a l) (hx : ev l x = some (.int q n)) (hn : q'.wrap n = n) : ∀ w, S w → (execOp a.eval ⟨dd, .convert src dst x, ty, pos, af, gd⟩).run P w = .ok (.value (.int q' n)) w := fun w _ => by
  have h1 := H.ev hx
  simp only [execOp, h1]
  simp [run_cvt hs hds hn w, Result.andThen]
theorem r_mkZ {t : TypeId} {x : Operand} {v : Value} {ds : TypeDesc} (hu : P.underlying t = some ds) (hds : (match ds with | .interface _ => false | _ => true) = true) (H : Has N D a l) (hx : ev l x = some v) : ∀ w, S w → (execOp a.eval ⟨dd, .makeInterface t x, ty, pos, af, gd⟩).run P w = .ok (.value (.iface t v)) w := fun w _ => by
  have h1 := H.ev hx
  simp only [execOp, h1]
  cases ds <;> simp_all [Instr.makeInterface, run_underlying hu, Sem.run_bind, Result.andThen]
end
theorem ret3 {P : Program} {N : Nat} {a : Act} {l : List (Nat × Value)} {w : World} {fn : Func} {t u x : Tmp} {v e y : Value} {R : Ending → World → Prop} (hres : fn.results = #[.tmp t, .tmp u, .tmp x]) (H : Has N [] a l) (h1 : look l t = some v) (h2 : look l u = some e) (h3 : look l x = some y) (hR : R (.returned (.tuple #[v, e, y])) w) : bodyPost P fn R .ret a w := by
  have e1 := H.get t v h1
  have e2 := H.get u e h2
  have e3 := H.get x y h3
  have h : (results fn a.tmps).run P w = .ok (.tuple #[v, e, y]) w := by simp [results, hres, e1, e2, e3]
  exact bodyPost_ret_by h H.defers hR
theorem pf_need : PlainFn Tryd.prog 82 := ⟨_, Tryd.func82, by kernel_rfl, by kernel_rfl⟩
theorem pf_dec : PlainFn Tryd.prog 83 := ⟨_, Tryd.func83, by kernel_rfl, by kernel_rfl⟩
theorem pf_nerr : PlainFn Tryd.prog 49 := ⟨_, Tryd.func49, by kernel_rfl, by kernel_rfl⟩
theorem pf_cur : PlainFn Tryd.prog 51 := ⟨_, Tryd.func51, by kernel_rfl, by kernel_rfl⟩
theorem pf_parse : PlainFn Tryd.prog 84 := ⟨_, Tryd.func84, by kernel_rfl, by kernel_rfl⟩
theorem pf_surr : PlainFn Tryd.prog 85 := ⟨_, Tryd.func85, by kernel_rfl, by kernel_rfl⟩
theorem pf_pair : PlainFn Tryd.prog 86 := ⟨_, Tryd.func86, by kernel_rfl, by kernel_rfl⟩
end Go.Proofs.YtjkmmhnhhiopiaaDoor
