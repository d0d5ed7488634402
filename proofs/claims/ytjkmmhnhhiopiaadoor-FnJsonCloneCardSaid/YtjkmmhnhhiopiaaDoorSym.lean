/-
  A walk over a frame of which only some slots are known: what each operation leaves. Over any program.
-/
import Derived.Test.YtjkmmhnhhiopiaaDoorViews
import Derived.Deep.MidRow
import Derived.IntWalk
import Derived.Deep.RegionHeld3
import Derived.Defers
import Derived.Great.BuildSlice
namespace Go.Proofs.YtjkmmhnhhiopiaaDoor
open Go.RowKit

/-- what a slot holds, by a list of slots; the first that names it counts -/
def look : List (Nat × Value) → Nat → Option Value
  | [], _ => none
  | (k, v) :: l, j => match Nat.beq k j with
    | true => some v
    | false => look l j
def ev (l : List (Nat × Value)) : Operand → Option Value
  | .tmp k => look l k
  | .const v => some v
  | .global g => some (.pointer (some ⟨g, 0, none⟩))
  | .func f => some (.func (.func f) #[] #[])
/-- a frame of N slots that holds what the list says; D is what is put off -/
structure Has (N : Nat) (D : List Deferred) (a : Act) (l : List (Nat × Value)) : Prop where
  size : a.tmps.size = N
  defers : a.defers = D
  get : ∀ k v, look l k = some v → a.tmps[k]? = some v
variable {N : Nat} {D : List Deferred} {a : Act} {l : List (Nat × Value)}
theorem Has.ev (H : Has N D a l) {x : Operand} {v : Value} (h : ev l x = some v) : a.eval x = v := by
  cases x with
  | tmp k =>
    have := H.get k v h
    simp [Act.eval, this]
  | const u => injection h
  | global g => injection h
  | func f => injection h
theorem Has.put (H : Has N D a l) {d : Nat} {v : Value} (hd : Nat.blt d N = true) : Has N D (a.put (some d) v) ((d, v) :: l) where
  size := by simp [Act.put, H.size]
  defers := H.defers
  get := fun k u h => by
    have hd' : d < N := by simpa [Nat.blt_eq] using hd
    unfold look at h
    cases hb : Nat.beq d k with
    | true =>
      rw [hb] at h
      obtain rfl := Nat.eq_of_beq_eq_true hb
      injection h with h
      subst h
      simp [Act.put, H.size, hd']
    | false =>
      rw [hb] at h
      have hne := Nat.ne_of_beq_eq_false hb
      have := H.get k u h
      simp [Act.put, hne, this]
theorem Has.put' (H : Has N D a l) {v : Value} : Has N D (a.put none v) l := H
/-- fewer slots known -/
theorem Has.sub (H : Has N D a l) (l' : List (Nat × Value)) (h : ∀ k v, look l' k = some v → look l k = some v) : Has N D a l' := ⟨H.size, H.defers, fun k v hk => H.get k v (h k v hk)⟩
theorem sub_nil {l : List (Nat × Value)} : ∀ k v, look [] k = some v → look l k = some v := fun _ _ h => by cases h
theorem sub_cons {l l' : List (Nat × Value)} {j : Nat} {u : Value} (h0 : look l j = some u) (h : ∀ k v, look l' k = some v → look l k = some v) : ∀ k v, look ((j, u) :: l') k = some v → look l k = some v := fun k v hk => by
  unfold look at hk
  cases hb : Nat.beq j k with
  | true =>
    rw [hb] at hk
    obtain rfl := Nat.eq_of_beq_eq_true hb
    injection hk with hk
    subst hk
    exact h0
  | false =>
    rw [hb] at hk
    exact h k v hk
theorem Has.enter1 {M : Nat} (v : Value) (hM : Nat.blt 0 M = true) : Has M [] { tmps := #[v] ++ Array.replicate (M - (#[v] : Array Value).size) undef, defers := [] } [(0, v)] where
  size := by
    have : 0 < M := by simpa [Nat.blt_eq] using hM
    simp; omega
  defers := rfl
  get := fun k u h => by
    unfold look at h
    cases hb : Nat.beq 0 k with
    | true =>
      rw [hb] at h
      obtain rfl := Nat.eq_of_beq_eq_true hb
      injection h with h
      subst h
      rw [Array.getElem?_append_left (by simp)]
      rfl
    | false =>
      rw [hb] at h
      cases h
theorem Has.enter2 {M : Nat} (v u : Value) (hM : Nat.blt 1 M = true) : Has M [] { tmps := #[v, u] ++ Array.replicate (M - (#[v, u] : Array Value).size) undef, defers := [] } [(0, v), (1, u)] where
  size := by
    have : 1 < M := by simpa [Nat.blt_eq] using hM
    simp; omega
  defers := rfl
  get := fun k x h => by
    unfold look at h
    cases hb : Nat.beq 0 k with
    | true =>
      rw [hb] at h
      obtain rfl := Nat.eq_of_beq_eq_true hb
      injection h with h
      subst h
      rw [Array.getElem?_append_left (by simp)]
      rfl
    | false =>
      rw [hb] at h
      unfold look at h
      cases hb2 : Nat.beq 1 k with
      | true =>
        simp only [hb2] at h
        obtain rfl := Nat.eq_of_beq_eq_true hb2
        injection h with h
        subst h
        rw [Array.getElem?_append_left (by simp)]
        rfl
      | false =>
        simp only [hb2] at h
        cases h

section
variable {P : Program} {L : List Oper} {rest : List Oper} {Q : Exit → Act → World → Prop} {w : World} {d : Nat} {op : Op} {ty : TypeId} {pos : String} {af : Array Edge}
/-- the slot of an operation of the region -/
def nthDst : List Oper → Nat → Option Tmp
  | [], _ => none
  | o :: _, 0 => o.dst
  | _ :: l, n + 1 => nthDst l n
theorem nthDst_eq : ∀ (l : List Oper) (j : Nat), (l.toArray[j]?).bind (·.dst) = nthDst l j
  | [], j => by simp [nthDst]
  | o :: l, 0 => by simp [nthDst]
  | o :: l, n + 1 => by
    have := nthDst_eq l n
    simp at this
    simp [nthDst, this]
theorem yielded_at (H : Has N D a l) {j k : Nat} {v : Value} (hn : nthDst L j = some k) (hv : look l k = some v) : yielded L.toArray a.tmps j = match v with
    | .bool b => some b
    | _ => none := by
  unfold yielded
  rw [nthDst_eq, hn]
  simp only [Option.bind_some]
  rw [H.get k v hv]
  cases v <;> rfl
/-- a guarded operation whose guard is met -/
theorem y_on {dd : Option Tmp} {j k : Nat} {b : Bool} (H : Has N D a l) (hn : nthDst L j = some k) (hv : look l k = some (.bool b))
    (h : wpList P L.toArray Q (⟨dd, op, ty, pos, af, none⟩ :: rest) a w) : wpList P L.toArray Q (⟨dd, op, ty, pos, af, some (j, b)⟩ :: rest) a w := by
  have hw : Region.wanted ⟨dd, op, ty, pos, af, some (j, b)⟩ (yielded L.toArray a.tmps) = true := by
    unfold Region.wanted
    simp only
    rw [yielded_at H hn hv]
    simp
  unfold wpList at h ⊢
  rw [if_pos hw]
  rw [if_pos (by rfl)] at h
  exact h
/-- a guarded operation whose guard is not met -/
theorem y_off {j k : Nat} {b : Bool} (H : Has N D a l) (hn : nthDst L j = some k) (hv : look l k = some (.bool (!b))) (hd : Nat.blt d N = true)
    (h : ∀ a, Has N D a ((d, undef) :: l) → wpList P L.toArray Q rest a w) : wpList P L.toArray Q (⟨some d, op, ty, pos, af, some (j, b)⟩ :: rest) a w := by
  have hw : Region.wanted ⟨some d, op, ty, pos, af, some (j, b)⟩ (yielded L.toArray a.tmps) = false := by
    unfold Region.wanted
    simp only
    rw [yielded_at H hn hv]
    cases b <;> rfl
  unfold wpList
  rw [if_neg (by rw [hw]; simp)]
  exact h _ (H.put hd)
theorem y_offu {j k : Nat} {b : Bool} (H : Has N D a l) (hn : nthDst L j = some k) (hv : look l k = some undef) (hd : Nat.blt d N = true)
    (h : ∀ a, Has N D a ((d, undef) :: l) → wpList P L.toArray Q rest a w) : wpList P L.toArray Q (⟨some d, op, ty, pos, af, some (j, b)⟩ :: rest) a w := by
  have hw : Region.wanted ⟨some d, op, ty, pos, af, some (j, b)⟩ (yielded L.toArray a.tmps) = false := by
    unfold Region.wanted
    simp only
    rw [yielded_at H hn hv]
    rfl
  unfold wpList
  rw [if_neg (by rw [hw]; simp)]
  exact h _ (H.put hd)
theorem y_wp {w' : World} {v : Value} (H : Has N D a l) (hd : Nat.blt d N = true) (hr : (execOp a.eval ⟨some d, op, ty, pos, af, none⟩).run P w = .ok (.value v) w')
    (h : ∀ a, Has N D a ((d, v) :: l) → wpList P L.toArray Q rest a w') : wpList P L.toArray Q (⟨some d, op, ty, pos, af, none⟩ :: rest) a w := by
  refine wpList_plain rfl fun K hK => ?_
  unfold Oper.wp
  rw [hr]
  exact hK _ _ (h _ (H.put hd))
theorem y_move {x : Operand} {v : Value} (H : Has N D a l) (hx : ev l x = some v) (hd : Nat.blt d N = true)
    (h : ∀ a, Has N D a ((d, v) :: l) → wpList P L.toArray Q rest a w) : wpList P L.toArray Q (⟨some d, .move x, ty, pos, af, none⟩ :: rest) a w :=
  y_wp H hd (by have := H.ev hx; simp [execOp, this]) h
theorem y_assign {x : Operand} {v : Value} (H : Has N D a l) (hx : ev l x = some v) (hd : Nat.blt d N = true)
    (h : ∀ a, Has N D a ((d, v) :: l) → wpList P L.toArray Q rest a w) : wpList P L.toArray Q (⟨some d, .assign x, ty, pos, af, none⟩ :: rest) a w :=
  y_wp H hd (by have := H.ev hx; simp [execOp, this]) h
theorem y_pick {c x y : Operand} {b : Bool} {v : Value} (H : Has N D a l) (hc : ev l c = some (.bool b)) (hx : ev l (bif b then x else y) = some v) (hd : Nat.blt d N = true)
    (h : ∀ a, Has N D a ((d, v) :: l) → wpList P L.toArray Q rest a w) : wpList P L.toArray Q (⟨some d, .pick c x y, ty, pos, af, none⟩ :: rest) a w :=
  y_wp H hd (by
    have h1 := H.ev hc
    have h2 := H.ev hx
    cases b <;> simp [execOp, h1, asBool] at h2 ⊢ <;> exact h2) h
theorem y_not {t : TypeId} {x : Operand} {b : Bool} (H : Has N D a l) (hx : ev l x = some (.bool b)) (hd : Nat.blt d N = true)
    (h : ∀ a, Has N D a ((d, .bool (!b)) :: l) → wpList P L.toArray Q rest a w) : wpList P L.toArray Q (⟨some d, .unOp .not t x, ty, pos, af, none⟩ :: rest) a w :=
  y_wp H hd (by have := H.ev hx; simp only [execOp, this]; simp [go_sem]) h
theorem y_eql {t t' : TypeId} {x y : Operand} {k : IntKind} {m n : Int} {b : Bool} (H : Has N D a l) (hx : ev l x = some (.int k m)) (hy : ev l y = some (.int k n)) (hb : (m == n) = b) (hd : Nat.blt d N = true)
    (h : ∀ a, Has N D a ((d, .bool b) :: l) → wpList P L.toArray Q rest a w) : wpList P L.toArray Q (⟨some d, .binOp .eql t x y t', ty, pos, af, none⟩ :: rest) a w :=
  y_wp H hd (by have h1 := H.ev hx; have h2 := H.ev hy; subst hb; simp only [execOp, h1, h2]; simp [go_sem]) h
theorem y_leq {t t' : TypeId} {x y : Operand} {k : IntKind} {m n : Int} {b : Bool} (H : Has N D a l) (hx : ev l x = some (.int k m)) (hy : ev l y = some (.int k n)) (hb : decide (m ≤ n) = b) (hd : Nat.blt d N = true)
    (h : ∀ a, Has N D a ((d, .bool b) :: l) → wpList P L.toArray Q rest a w) : wpList P L.toArray Q (⟨some d, .binOp .leq t x y t', ty, pos, af, none⟩ :: rest) a w :=
  y_wp H hd (by have h1 := H.ev hx; have h2 := H.ev hy; subst hb; simp only [execOp, h1, h2]; simp [go_sem]) h
theorem y_gtr {t t' : TypeId} {x y : Operand} {k : IntKind} {m n : Int} {b : Bool} (H : Has N D a l) (hx : ev l x = some (.int k m)) (hy : ev l y = some (.int k n)) (hb : decide (n < m) = b) (hd : Nat.blt d N = true)
    (h : ∀ a, Has N D a ((d, .bool b) :: l) → wpList P L.toArray Q rest a w) : wpList P L.toArray Q (⟨some d, .binOp .gtr t x y t', ty, pos, af, none⟩ :: rest) a w :=
  y_wp H hd (by have h1 := H.ev hx; have h2 := H.ev hy; subst hb; simp only [execOp, h1, h2]; simp [go_sem]) h
theorem y_geq {t t' : TypeId} {x y : Operand} {k : IntKind} {m n : Int} {b : Bool} (H : Has N D a l) (hx : ev l x = some (.int k m)) (hy : ev l y = some (.int k n)) (hb : decide (n ≤ m) = b) (hd : Nat.blt d N = true)
    (h : ∀ a, Has N D a ((d, .bool b) :: l) → wpList P L.toArray Q rest a w) : wpList P L.toArray Q (⟨some d, .binOp .geq t x y t', ty, pos, af, none⟩ :: rest) a w :=
  y_wp H hd (by have h1 := H.ev hx; have h2 := H.ev hy; subst hb; simp only [execOp, h1, h2]; simp [go_sem]) h
theorem y_lss {t t' : TypeId} {x y : Operand} {k : IntKind} {m n : Int} {b : Bool} (H : Has N D a l) (hx : ev l x = some (.int k m)) (hy : ev l y = some (.int k n)) (hb : decide (m < n) = b) (hd : Nat.blt d N = true)
    (h : ∀ a, Has N D a ((d, .bool b) :: l) → wpList P L.toArray Q rest a w) : wpList P L.toArray Q (⟨some d, .binOp .lss t x y t', ty, pos, af, none⟩ :: rest) a w :=
  y_wp H hd (by have h1 := H.ev hx; have h2 := H.ev hy; subst hb; simp only [execOp, h1, h2]; simp [go_sem]) h
theorem y_neq {t t' : TypeId} {x y : Operand} {k : IntKind} {m n : Int} {b : Bool} (H : Has N D a l) (hx : ev l x = some (.int k m)) (hy : ev l y = some (.int k n)) (hb : (m != n) = b) (hd : Nat.blt d N = true)
    (h : ∀ a, Has N D a ((d, .bool b) :: l) → wpList P L.toArray Q rest a w) : wpList P L.toArray Q (⟨some d, .binOp .neq t x y t', ty, pos, af, none⟩ :: rest) a w :=
  y_wp H hd (by have h1 := H.ev hx; have h2 := H.ev hy; subst hb; simp only [execOp, h1, h2]; simp [go_sem]) h
theorem y_add {t t' : TypeId} {x y : Operand} {k : IntKind} {m n r : Int} (H : Has N D a l) (hx : ev l x = some (.int k m)) (hy : ev l y = some (.int k n)) (hr : k.wrap (m + n) = r) (hd : Nat.blt d N = true)
    (h : ∀ a, Has N D a ((d, .int k r) :: l) → wpList P L.toArray Q rest a w) : wpList P L.toArray Q (⟨some d, .binOp .add t x y t', ty, pos, af, none⟩ :: rest) a w :=
  y_wp H hd (by have h1 := H.ev hx; have h2 := H.ev hy; subst hr; simp only [execOp, h1, h2]; simp [go_sem]) h
theorem y_sub {t t' : TypeId} {x y : Operand} {k : IntKind} {m n r : Int} (H : Has N D a l) (hx : ev l x = some (.int k m)) (hy : ev l y = some (.int k n)) (hr : k.wrap (m - n) = r) (hd : Nat.blt d N = true)
    (h : ∀ a, Has N D a ((d, .int k r) :: l) → wpList P L.toArray Q rest a w) : wpList P L.toArray Q (⟨some d, .binOp .sub t x y t', ty, pos, af, none⟩ :: rest) a w :=
  y_wp H hd (by have h1 := H.ev hx; have h2 := H.ev hy; subst hr; simp only [execOp, h1, h2]; simp [go_sem]) h
theorem y_extract {x : Operand} {i : Nat} {vs : Array Value} {v : Value} (H : Has N D a l) (hx : ev l x = some (.tuple vs)) (hv : vs[i]? = some v) (hd : Nat.blt d N = true)
    (h : ∀ a, Has N D a ((d, v) :: l) → wpList P L.toArray Q rest a w) : wpList P L.toArray Q (⟨some d, .extract x i, ty, pos, af, none⟩ :: rest) a w :=
  y_wp H hd (by have h1 := H.ev hx; simp [execOp, h1, Instr.extract, hv]) h
theorem y_nilCheck {x : Operand} {ad : Addr} (H : Has N D a l) (hx : ev l x = some (.pointer (some ad))) (hd : Nat.blt d N = true)
    (h : ∀ a, Has N D a ((d, .pointer (some ad)) :: l) → wpList P L.toArray Q rest a w) : wpList P L.toArray Q (⟨some d, .nilCheck x, ty, pos, af, none⟩ :: rest) a w :=
  y_wp H hd (by have h1 := H.ev hx; simp [execOp, h1]) h
/-- a field's place, as the program's types have it -/
def FieldIs (P : Program) (s f k : Nat) : Prop := ∀ (p : Nat) (w : World), (Instr.fieldAt s (.pointer (some ⟨p, 0, none⟩)) f).run P w = .ok (.pointer (some ⟨p, k, none⟩)) w
theorem y_field {s f k p : Nat} {x : Operand} (hf : FieldIs P s f k) (H : Has N D a l) (hx : ev l x = some (.pointer (some ⟨p, 0, none⟩))) (hd : Nat.blt d N = true)
    (h : ∀ a, Has N D a ((d, .pointer (some ⟨p, k, none⟩)) :: l) → wpList P L.toArray Q rest a w) : wpList P L.toArray Q (⟨some d, .fieldAddr s x f, ty, pos, af, none⟩ :: rest) a w :=
  y_wp H hd (by have h1 := H.ev hx; simp [execOp, h1, hf p w, Result.andThen]) h
/-- a type whose variables are one cell -/
def OneCell (P : Program) (t : TypeId) : Prop := ∀ w : World, (isAgg t).run P w = .ok false w
theorem y_load {t : TypeId} {x : Operand} {ad : Addr} {v : Value} (ht : OneCell P t) (H : Has N D a l) (hx : ev l x = some (.pointer (some ad))) (hc : w.cell? ad = some v) (hd : Nat.blt d N = true)
    (h : ∀ a, Has N D a ((d, v) :: l) → wpList P L.toArray Q rest a w) : wpList P L.toArray Q (⟨some d, .load t x, ty, pos, af, none⟩ :: rest) a w :=
  y_wp H hd (by
    have h1 := H.ev hx
    have h2 := ht w
    simp only [execOp, h1]; simp [go_sem, Instr.loadAt, loadVar, Sem.run_bind, h2, hc, Result.andThen]) h
theorem y_len {t e : TypeId} {x : Operand} {g : Nat} {v : Value} {bs : List UInt8} (ht : P.underlying t = some (.slice e)) (H : Has N D a l) (hx : ev l x = some v) (hv : View w g v bs) (hd : Nat.blt d N = true)
    (h : ∀ a, Has N D a ((d, .int .i64 (bs.length : Int)) :: l) → wpList P L.toArray Q rest a w) : wpList P L.toArray Q (⟨some d, .call { callee := .builtin .len, args := #[x], argTypes := #[t] }, ty, pos, af, none⟩ :: rest) a w :=
  wpList_len_view w (by rfl) x t e rfl ht g v bs (H.ev hx) hv (h _ (H.put hd))
theorem y_idx {t e : TypeId} {x i : Operand} {g : Nat} {v : Value} {bs : List UInt8} {k : IntKind} {n : Int} {c : UInt8} (ht : P.underlying t = some (.slice e)) (hinfo : (P.info? e).map (fun i => (i.zero, i.size, i.bytes)) = some (some (.int .u8 0), 1, 1))
    (H : Has N D a l) (hx : ev l x = some v) (hi : ev l i = some (.int k n)) (hv : View w g v bs) (h0 : 0 ≤ n) (hc : bs[n.toNat]? = some c) (hd : Nat.blt d N = true)
    (h : ∀ a ad, Has N D a ((d, .pointer (some ad)) :: l) → w.cell? ad = some (.int .u8 (c.toNat : Int)) → wpList P L.toArray Q rest a w) : wpList P L.toArray Q (⟨some d, .indexAddr t x i, ty, pos, af, none⟩ :: rest) a w := by
  obtain ⟨h1, h2⟩ := List.getElem?_eq_some_iff.1 hc
  refine wpList_index_view w (by rfl) x i t e rfl ht hinfo g v bs (H.ev hx) hv k n (H.ev hi) h0 h1 fun ad hca => h _ ad (H.put hd) ?_
  rw [← h2]
  exact hca
theorem y_from {t e : TypeId} {x i : Operand} {g : Nat} {v : Value} {bs : List UInt8} {k : IntKind} {n : Int} (ht : P.underlying t = some (.slice e)) (hinfo : (P.info? e).map (fun i => (i.zero, i.size, i.bytes)) = some (some (.int .u8 0), 1, 1))
    (H : Has N D a l) (hx : ev l x = some v) (hi : ev l i = some (.int k n)) (hv : View w g v bs) (h0 : 0 ≤ n) (h1 : n ≤ bs.length) (hd : Nat.blt d N = true)
    (h : ∀ a v', Has N D a ((d, v') :: l) → View w g v' (bs.drop n.toNat) → wpList P L.toArray Q rest a w) : wpList P L.toArray Q (⟨some d, .slice t x (some i) none none, ty, pos, af, none⟩ :: rest) a w :=
  wpList_slice_from w (by rfl) x i t e rfl ht hinfo g v bs (H.ev hx) hv k n (H.ev hi) h0 h1 fun v' hv' => h _ v' (H.put hd) hv'
theorem y_upto {t e : TypeId} {x i : Operand} {g : Nat} {v : Value} {bs : List UInt8} {k : IntKind} {n : Int} (ht : P.underlying t = some (.slice e)) (hinfo : (P.info? e).map (fun i => (i.zero, i.size, i.bytes)) = some (some (.int .u8 0), 1, 1))
    (H : Has N D a l) (hx : ev l x = some v) (hi : ev l i = some (.int k n)) (hv : View w g v bs) (h0 : 0 ≤ n) (h1 : n ≤ bs.length) (hd : Nat.blt d N = true)
    (h : ∀ a v', Has N D a ((d, v') :: l) → View w g v' (bs.take n.toNat) → wpList P L.toArray Q rest a w) : wpList P L.toArray Q (⟨some d, .slice t x none (some i) none, ty, pos, af, none⟩ :: rest) a w :=
  wpList_slice_to w (by rfl) x i t e rfl ht hinfo g v bs (H.ev hx) hv k n (H.ev hi) h0 h1 fun v' hv' => h _ v' (H.put hd) hv'
/-- the arguments of a call -/
def evs (l : List (Nat × Value)) : List Operand → Option (List Value)
  | [] => some []
  | x :: xs => match ev l x, evs l xs with
    | some v, some vs => some (v :: vs)
    | _, _ => none
theorem Has.evs (H : Has N D a l) : ∀ {xs : List Operand} {vs : List Value}, evs l xs = some vs → xs.map a.eval = vs
  | [], vs, h => by injection h
  | x :: xs, vs, h => by
    unfold Go.Proofs.YtjkmmhnhhiopiaaDoor.evs at h
    split at h
    · rename_i v us h1 h2
      injection h with h
      rw [← h, List.map_cons, H.ev h1, Has.evs H h2]
    · cases h
/-- a function that is called by its own text -/
def PlainFn (P : Program) (f : FuncId) : Prop := ∃ fn, P.funcs[f]? = some fn ∧ (fn.name == "runtime.NumGoroutine") = false ∧ fn.body.isNone = false
theorem run_callFunc {f : FuncId} (hp : PlainFn P f) (vs : Array Value) (w : World) : (callFunc f vs).run P w = .ok (.enter f vs) w := by
  obtain ⟨fn, h1, h2, h3⟩ := hp
  simp [callFunc, go_sem, h1]
  rw [if_neg (by simpa using h2), if_neg (by intro e; rw [e] at h3; simp at h3)]
theorem y_call {f : FuncId} {xs : List Operand} {ts : Array TypeId} {vs : List Value} (hp : PlainFn P f) (H : Has N D a l) (hx : evs l xs = some vs) (hd : Nat.blt d N = true)
    (h : Calls P f vs.toArray w fun e w' => ∃ v, e = .returned v ∧ ∀ a, Has N D a ((d, v) :: l) → wpList P L.toArray Q rest a w') : wpList P L.toArray Q (⟨some d, .call { callee := .value (.func f), args := xs.toArray, argTypes := ts }, ty, pos, af, none⟩ :: rest) a w := by
  refine wpList_plain rfl fun K hK => ?_
  have h1 := H.evs hx
  unfold Oper.wp
  simp only [execOp]
  simp [resolve, invoke, h1, go_sem, run_callFunc hp]
  refine h.mono ?_
  rintro e w' ⟨v, rfl, h2⟩
  exact hK _ _ (h2 _ (H.put hd))
theorem y_callv {f : FuncId} {xs : List Operand} {ts : Array TypeId} {vs : List Value} (hp : PlainFn P f) (H : Has N D a l) (hx : evs l xs = some vs)
    (h : Calls P f vs.toArray w fun e w' => ∃ v, e = .returned v ∧ wpList P L.toArray Q rest a w') : wpList P L.toArray Q (⟨none, .call { callee := .value (.func f), args := xs.toArray, argTypes := ts }, ty, pos, af, none⟩ :: rest) a w := by
  refine wpList_plain rfl fun K hK => ?_
  have h1 := H.evs hx
  unfold Oper.wp
  simp only [execOp]
  simp [resolve, invoke, h1, go_sem, run_callFunc hp]
  refine h.mono ?_
  rintro e w' ⟨v, rfl, h2⟩
  exact hK _ _ h2
theorem y_build {t : TypeId} {parts : Array (Nat × Operand)} {ps : List (Nat × Value)} {cells : Array Value} (H : Has N D a l) (hp : (parts.map fun (i, x) => (i, a.eval x)) = ps.toArray) (hb : P.built t ps = some cells) (hd : Nat.blt d N = true)
    (h : ∀ a, Has N D a ((d, .agg cells) :: l) → wpList P L.toArray Q rest a w) : wpList P L.toArray Q (⟨some d, .build t parts, ty, pos, af, none⟩ :: rest) a w :=
  y_wp H hd (by
    have := run_build (P := P) w t ps.toArray cells (by simpa using hb)
    simp [execOp, hp, this, Result.andThen]) h
end
section
variable {P : Program} {Q : Exit → Act → World → Prop} {w : World} {id : Nat}
theorem y_reg {L : List Oper} (h : wpList P L.toArray Q L a w) : (Code.region id L.toArray false).wp P Q a w := wp_region_lit h
theorem y_nil {L : List Oper} {K : Act → World → Prop} {Q' : Exit → Act → World → Prop} (h : K a w) : wpList P L.toArray (Exit.then K Q') [] a w := wpList_nil h
theorem y_seq {x y : Code} (h : ∀ K : Act → World → Prop, (∀ a w, y.wp P Q a w → K a w) → x.wp P (Exit.then K Q) a w) : (Code.seq x y).wp P Q a w := wp_seq_k h
theorem y_if {x y : Code} {c : Operand} {b : Bool} (H : Has N D a l) (hc : ev l c = some (.bool b)) (h : (bif b then x else y).wp P Q a w) : (Code.cond c x y).wp P Q a w := by
  refine wp_cond (H.ev hc) ?_
  cases b <;> exact h
end
section
variable {P : Program} {L : List Oper} {rest : List Oper} {Q : Exit → Act → World → Prop} {w : World} {d : Nat} {op : Op} {ty : TypeId} {pos : String} {af : Array Edge} {id : Nat} {K : Act → World → Prop}
theorem y_ift {x y : Code} {c : Operand} (H : Has N D a l) (hc : ev l c = some (.bool true)) (h : x.wp P Q a w) : (Code.cond c x y).wp P Q a w := wp_cond_true (H.ev hc) h
theorem y_iff {x y : Code} {c : Operand} (H : Has N D a l) (hc : ev l c = some (.bool false)) (h : y.wp P Q a w) : (Code.cond c x y).wp P Q a w := wp_cond_false (H.ev hc) h
theorem ieq_t {m n : Int} (h : m = n) : (m == n) = true := by simpa using h
theorem ieq_f {m n : Int} (h : m ≠ n) : (m == n) = false := by simpa using h
theorem ine_t {m n : Int} (h : m ≠ n) : (m != n) = true := by simpa using h
theorem ine_f {m n : Int} (h : m = n) : (m != n) = false := by simpa using h
theorem wrap_in {r : Int} (h0 : -9223372036854775808 ≤ r) (h1 : r ≤ 9223372036854775807) : IntKind.i64.wrap r = r := IntWalk.i64_in r (by omega)
theorem y_addi {t t' : TypeId} {x y : Operand} {m n r : Int} (H : Has N D a l) (hx : ev l x = some (.int .i64 m)) (hy : ev l y = some (.int .i64 n)) (hr : m + n = r) (h0 : -9223372036854775808 ≤ r) (h1 : r ≤ 9223372036854775807) (hd : Nat.blt d N = true)
    (h : ∀ a, Has N D a ((d, .int .i64 r) :: l) → wpList P L.toArray Q rest a w) : wpList P L.toArray Q (⟨some d, .binOp .add t x y t', ty, pos, af, none⟩ :: rest) a w :=
  y_add H hx hy (by rw [hr]; exact wrap_in h0 h1) hd h
theorem y_subi {t t' : TypeId} {x y : Operand} {m n r : Int} (H : Has N D a l) (hx : ev l x = some (.int .i64 m)) (hy : ev l y = some (.int .i64 n)) (hr : m - n = r) (h0 : -9223372036854775808 ≤ r) (h1 : r ≤ 9223372036854775807) (hd : Nat.blt d N = true)
    (h : ∀ a, Has N D a ((d, .int .i64 r) :: l) → wpList P L.toArray Q rest a w) : wpList P L.toArray Q (⟨some d, .binOp .sub t x y t', ty, pos, af, none⟩ :: rest) a w :=
  y_sub H hx hy (by rw [hr]; exact wrap_in h0 h1) hd h
theorem y_and {t t' : TypeId} {x y : Operand} {k : IntKind} {m n r : Int} (H : Has N D a l) (hx : ev l x = some (.int k m)) (hy : ev l y = some (.int k n)) (hr : bits .and k m n = r) (hd : Nat.blt d N = true)
    (h : ∀ a, Has N D a ((d, .int k r) :: l) → wpList P L.toArray Q rest a w) : wpList P L.toArray Q (⟨some d, .binOp .and t x y t', ty, pos, af, none⟩ :: rest) a w :=
  y_wp H hd (by have h1 := H.ev hx; have h2 := H.ev hy; subst hr; simp only [execOp, h1, h2]; simp [go_sem]) h
theorem y_or {t t' : TypeId} {x y : Operand} {k : IntKind} {m n r : Int} (H : Has N D a l) (hx : ev l x = some (.int k m)) (hy : ev l y = some (.int k n)) (hr : bits .or k m n = r) (hd : Nat.blt d N = true)
    (h : ∀ a, Has N D a ((d, .int k r) :: l) → wpList P L.toArray Q rest a w) : wpList P L.toArray Q (⟨some d, .binOp .or t x y t', ty, pos, af, none⟩ :: rest) a w :=
  y_wp H hd (by have h1 := H.ev hx; have h2 := H.ev hy; subst hr; simp only [execOp, h1, h2]; simp [go_sem]) h
/-- what an allocation makes -/
def AllocIs (P : Program) (t : TypeId) (cs : Array Value) : Prop := ∀ w : World, (Instr.alloc t true (.tuple #[])).run P w = .ok (.pointer (some ⟨w.heap.size, 0, none⟩)) (w.alloc (.cells cs t))
theorem y_alloc {t : TypeId} {cs : Array Value} (hr : AllocIs P t cs) (H : Has N D a l) (hd : Nat.blt d N = true)
    (h : ∀ a, Has N D a ((d, .pointer (some ⟨w.heap.size, 0, none⟩)) :: l) → wpList P L.toArray Q rest a (w.alloc (.cells cs t))) : wpList P L.toArray Q (⟨some d, .alloc t, ty, pos, af, none⟩ :: rest) a w :=
  y_wp H hd (by simp [execOp, hr w, Result.andThen]) h
def evp (l : List (Nat × Value)) : List (Nat × Operand) → Option (List (Nat × Value))
  | [] => some []
  | (i, x) :: xs => match ev l x, evp l xs with
    | some v, some vs => some ((i, v) :: vs)
    | _, _ => none
theorem Has.evp (H : Has N D a l) : ∀ {xs : List (Nat × Operand)} {vs : List (Nat × Value)}, evp l xs = some vs → (xs.map fun (i, x) => (i, a.eval x)) = vs
  | [], vs, h => by injection h
  | (i, x) :: xs, vs, h => by
    unfold Go.Proofs.YtjkmmhnhhiopiaaDoor.evp at h
    split at h
    · rename_i v us h1 h2
      injection h with h
      have ih := Has.evp H h2
      rw [← h, List.map_cons, ih]
      simp only [H.ev h1]
    · cases h
theorem y_bld {t : TypeId} {pl : List (Nat × Operand)} {ps : List (Nat × Value)} {cells : Array Value} (hb : P.built t ps = some cells) (H : Has N D a l) (hp : evp l pl = some ps) (hd : Nat.blt d N = true)
    (h : ∀ a, Has N D a ((d, .agg cells) :: l) → wpList P L.toArray Q rest a w) : wpList P L.toArray Q (⟨some d, .build t pl.toArray, ty, pos, af, none⟩ :: rest) a w :=
  y_build H (by have := H.evp hp; simp [this]) hb hd h
theorem then_normal (h : K a w) : Exit.then K Q .normal a w := h
theorem then_exit (h : Q (.exit id) a w) : Exit.then K Q (.exit id) a w := h
theorem then_ret (h : Q .ret a w) : Exit.then K Q .ret a w := h
theorem in_normal (h : Q .normal a w) : Exit.inBlock id Q .normal a w := h
theorem in_ret (h : Q .ret a w) : Exit.inBlock id Q .ret a w := h
theorem in_exit (h : Q .normal a w) : Exit.inBlock id Q (.exit id) a w := by simp [Exit.inBlock, h]
theorem in_other {id' : Nat} (hne : Nat.beq id' id = false) (h : Q (.exit id') a w) : Exit.inBlock id Q (.exit id') a w := by
  have := Nat.ne_of_beq_eq_false hne
  simp [Exit.inBlock, this, h]
end
section
variable {P : Program} {f : FuncId} {fn : Func} {c : Code} {M : Nat} {R : Ending → World → Prop} {w : World}
theorem enter1 {v : Value} (hf : P.funcs[f]? = some fn) (hb : fn.body = some c) (hn : fn.ntmps = M) (hM : Nat.blt 0 M = true) (h : ∀ a, Has M [] a [(0, v)] → c.wp P (bodyPost P fn R) a w) : Calls P f #[v] w R :=
  calls_of_wp hf hb (by rw [hn]; exact h _ (Has.enter1 v hM))
theorem enter2 {v u : Value} (hf : P.funcs[f]? = some fn) (hb : fn.body = some c) (hn : fn.ntmps = M) (hM : Nat.blt 1 M = true) (h : ∀ a, Has M [] a [(0, v), (1, u)] → c.wp P (bodyPost P fn R) a w) : Calls P f #[v, u] w R :=
  calls_of_wp hf hb (by rw [hn]; exact h _ (Has.enter2 v u hM))
end
section
variable {P : Program} {L : List Oper} {Q : Exit → Act → World → Prop} {S : World → Prop} {w : World} {d id fuel : Nat} {op : Op} {ty : TypeId} {pos : String} {af : Array Edge} {listed : Array Bool} {K : Act → World → Prop}
/-! a region that draws its order: what only yields a value is taken first; a write, an allocation or a call comes when it alone may come -/
theorem d_begin (S : World → Prop) (n : Nat) (hm : P.follows .mixedOrders = true) (hn : L.length = n) (h : wpAnyH P .any L.toArray (NoPanic Q) S n (Array.replicate n false) a w.drew) : (Code.region id L.toArray true).wp P Q a w := by
  subst hn
  exact wp_region_noPanic (wp_region_held (S := S) hm (by simpa using h))
theorem d_take {v : Value} (i : Nat) (H : Has N D a l) (hi : L.toArray[i]? = some ⟨some d, op, ty, pos, af, none⟩) (hs : Region.noSelect L.toArray = true) (hf : Region.free .any L.toArray listed i = true) (hr : (Region.ready .any L.toArray listed).contains i = true)
    (hy : ∀ w, S w → (execOp a.eval ⟨some d, op, ty, pos, af, none⟩).run P w = .ok (.value v) w) (hS : S w) (hd : Nat.blt d N = true)
    (h : ∀ a, Has N D a ((d, v) :: l) → wpAnyH P .any L.toArray (NoPanic Q) S fuel (listed.setIfInBounds i true) a w) : wpAnyH P .any L.toArray (NoPanic Q) S (fuel + 1) listed a w :=
  wpAnyH_take hi hs hf hr (fun _ _ _ h => h.elim) (.inl ⟨rfl, hy⟩) hS (h _ (H.put hd))
theorem upon_then {o : Oper} {r : Result Next} (h : o.upon P a K (Exit.then K Q) r) : o.upon P a K Q r := by
  cases r with
  | ok n w' => cases n <;> exact h
  | halt x w' => cases x <;> exact h
theorem d_one (i : Nat) {o : Oper} (hr : Region.ready .any L.toArray listed = [i]) (hi : L.toArray[i]? = some o) (hg : o.guard = none)
    (h : wpList P L.toArray (Exit.then (fun a' w' => S w' ∧ wpAnyH P .any L.toArray (NoPanic Q) S fuel (listed.setIfInBounds i true) a' w') (NoPanic Q)) [o] a w) : wpAnyH P .any L.toArray (NoPanic Q) S (fuel + 1) listed a w := by
  refine wpAnyH_all hr (by simp) fun j hj => ?_
  obtain rfl : j = i := by simpa using hj
  unfold wpOp
  simp only [hi]
  have hw : Region.wanted o (yielded L.toArray a.tmps) = true := by simp [Region.wanted, hg]
  rw [if_pos hw]
  unfold wpList at h
  rw [if_pos hw] at h
  rcases h with h | ⟨h1, h2⟩
  · exact .inl (upon_then h)
  · exact .inr ⟨h1, h2⟩
/-- one of two -/
theorem d_two (i j : Nat) {o o' : Oper} (hr : Region.ready .any L.toArray listed = [i, j]) (hi : L.toArray[i]? = some o) (hj : L.toArray[j]? = some o') (hg : o.guard = none) (hg' : o'.guard = none)
    (h : wpList P L.toArray (Exit.then (fun a' w' => S w' ∧ wpAnyH P .any L.toArray (NoPanic Q) S fuel (listed.setIfInBounds i true) a' w') (NoPanic Q)) [o] a w)
    (h' : wpList P L.toArray (Exit.then (fun a' w' => S w' ∧ wpAnyH P .any L.toArray (NoPanic Q) S fuel (listed.setIfInBounds j true) a' w') (NoPanic Q)) [o'] a w) : wpAnyH P .any L.toArray (NoPanic Q) S (fuel + 1) listed a w := by
  refine wpAnyH_all hr (by simp) fun k hk => ?_
  have hw : Region.wanted o (yielded L.toArray a.tmps) = true := by simp [Region.wanted, hg]
  have hw' : Region.wanted o' (yielded L.toArray a.tmps) = true := by simp [Region.wanted, hg']
  unfold wpList at h h'
  rw [if_pos hw] at h
  rw [if_pos hw'] at h'
  obtain rfl | rfl : k = i ∨ k = j := by simpa using hk
  · unfold wpOp
    simp only [hi]
    rw [if_pos hw]
    rcases h with h | ⟨h1, h2⟩
    · exact .inl (upon_then h)
    · exact .inr ⟨h1, h2⟩
  · unfold wpOp
    simp only [hj]
    rw [if_pos hw']
    rcases h' with h | ⟨h1, h2⟩
    · exact .inl (upon_then h)
    · exact .inr ⟨h1, h2⟩
theorem d_done (hr : Region.ready .any L.toArray listed = []) (h : Q .normal a w) : wpAnyH P .any L.toArray (NoPanic Q) S fuel listed a w := wpAnyH_done hr (NoPanic.normal h) fuel
variable {dd : Option Tmp} {gd : Option (Nat × Bool)}
theorem r_move {x : Operand} {v : Value} (H : Has N D a l) (hx : ev l x = some v) : ∀ w, S w → (execOp a.eval ⟨dd, .move x, ty, pos, af, gd⟩).run P w = .ok (.value v) w := fun w _ => by have := H.ev hx; simp [execOp, this]
theorem r_assign {x : Operand} {v : Value} (H : Has N D a l) (hx : ev l x = some v) : ∀ w, S w → (execOp a.eval ⟨dd, .assign x, ty, pos, af, gd⟩).run P w = .ok (.value v) w := fun w _ => by have := H.ev hx; simp [execOp, this]
theorem r_nilCheck {x : Operand} {ad : Addr} (H : Has N D a l) (hx : ev l x = some (.pointer (some ad))) : ∀ w, S w → (execOp a.eval ⟨dd, .nilCheck x, ty, pos, af, gd⟩).run P w = .ok (.value (.pointer (some ad))) w := fun w _ => by have h1 := H.ev hx; simp [execOp, h1]
theorem r_field {s f k p : Nat} {x : Operand} (hf : FieldIs P s f k) (H : Has N D a l) (hx : ev l x = some (.pointer (some ⟨p, 0, none⟩))) : ∀ w, S w → (execOp a.eval ⟨dd, .fieldAddr s x f, ty, pos, af, gd⟩).run P w = .ok (.value (.pointer (some ⟨p, k, none⟩))) w := fun w _ => by have h1 := H.ev hx; simp [execOp, h1, hf p w, Result.andThen]
theorem r_load {t : TypeId} {x : Operand} {ad : Addr} {v : Value} (ht : OneCell P t) (H : Has N D a l) (hx : ev l x = some (.pointer (some ad))) (hc : ∀ w, S w → w.cell? ad = some v) : ∀ w, S w → (execOp a.eval ⟨dd, .load t x, ty, pos, af, gd⟩).run P w = .ok (.value v) w := fun w hw => by
  have h1 := H.ev hx
  have h2 := ht w
  have h3 := hc w hw
  simp only [execOp, h1]
  simp [go_sem, Instr.loadAt, loadVar, Sem.run_bind, h2, h3, Result.andThen]
theorem r_extract {x : Operand} {i : Nat} {vs : Array Value} {v : Value} (H : Has N D a l) (hx : ev l x = some (.tuple vs)) (hv : vs[i]? = some v) : ∀ w, S w → (execOp a.eval ⟨dd, .extract x i, ty, pos, af, gd⟩).run P w = .ok (.value v) w := fun w _ => by have h1 := H.ev hx; simp [execOp, h1, Instr.extract, hv]
theorem r_subi {t t' : TypeId} {x y : Operand} {m n r : Int} (H : Has N D a l) (hx : ev l x = some (.int .i64 m)) (hy : ev l y = some (.int .i64 n)) (hr : m - n = r) (h0 : -9223372036854775808 ≤ r) (h1 : r ≤ 9223372036854775807) : ∀ w, S w → (execOp a.eval ⟨dd, .binOp .sub t x y t', ty, pos, af, gd⟩).run P w = .ok (.value (.int .i64 r)) w := fun w _ => by
  have h2 := H.ev hx
  have h3 := H.ev hy
  have h4 := wrap_in h0 h1
  rw [← hr] at h4 ⊢
  simp only [execOp, h2, h3]
  simp [go_sem, h4]
theorem r_len {t e : TypeId} {x : Operand} {g : Nat} {v : Value} {bs : List UInt8} {w0 : World} (ht : P.underlying t = some (.slice e)) (H : Has N D a l) (hx : ev l x = some v) (hv : View w0 g v bs) : ∀ w, S w → (execOp a.eval ⟨dd, .call { callee := .builtin .len, args := #[x], argTypes := #[t] }, ty, pos, af, gd⟩).run P w = .ok (.value (.int .i64 (bs.length : Int))) w := fun w _ => by
  obtain ⟨ao, cap, rfl⟩ := hv.slice
  have h1 := H.ev hx
  simp [execOp, resolve, invoke, builtin, h1, Builtin.len_, run_underlying ht, goInt]
theorem r_bld {t : TypeId} {pl : List (Nat × Operand)} {ps : List (Nat × Value)} {cells : Array Value} (hb : P.built t ps = some cells) (H : Has N D a l) (hp : evp l pl = some ps) : ∀ w, S w → (execOp a.eval ⟨dd, .build t pl.toArray, ty, pos, af, gd⟩).run P w = .ok (.value (.agg cells)) w := fun w _ => by
  have h1 := H.evp hp
  have := run_build (P := P) w t ps.toArray cells (by simpa using hb)
  simp [execOp, h1, this, Result.andThen]
theorem r_upto {t : TypeId} {x hi : Operand} {v v' : Value} {k' : IntKind} {n : Int} (H : Has N D a l) (hx : ev l x = some v) (hh : ev l hi = some (.int k' n)) (hr : ∀ W, (Instr.sliceAt t v none (some (.int k' n)) none).run P W = .ok v' W) :
    ∀ w, S w → (execOp a.eval ⟨dd, .slice t x none (some hi) none, ty, pos, af, gd⟩).run P w = .ok (.value v') w := fun w _ => by
  have h1 := H.ev hx
  have h3 := H.ev hh
  simp [execOp, h1, h3, hr w, Result.andThen]
theorem r_loadRow {t : TypeId} {x : Operand} {q : Nat} {cs : List Value} {ds : TypeDesc} (hu : P.underlying t = some ds) (hds : ds.isRow = true) (hi : (P.info? t).map (·.size) = some cs.length) (H : Has N D a l) (hx : ev l x = some (.pointer (some ⟨q, 0, none⟩))) (hr : ∀ w, S w → w.rangeAt q 0 cs) :
    ∀ w, S w → (execOp a.eval ⟨dd, .load t x, ty, pos, af, gd⟩).run P w = .ok (.value (.agg cs.toArray)) w := fun w hw => by
  have h1 := H.ev hx
  have := run_loadAt_mid (P := P) w q 0 t cs ds (hr w hw) hu hds hi
  simp only [execOp, h1]
  simp [this, Result.andThen]
/-- the address of a byte: the same in every world -/
theorem r_idx {t e : TypeId} {x i : Operand} {g : Nat} {v : Value} {bs : List UInt8} {k : IntKind} {n : Int} {w0 : World} {c : UInt8} (ht : P.underlying t = some (.slice e)) (hinfo : (P.info? e).map (fun i => (i.zero, i.size, i.bytes)) = some (some (.int .u8 0), 1, 1))
    (H : Has N D a l) (hx : ev l x = some v) (hi : ev l i = some (.int k n)) (hv : View w0 g v bs) (h0 : 0 ≤ n) (hc : bs[n.toNat]? = some c) :
    ∃ ad : Addr, ad.block = g ∧ w0.cell? ad = some (.int .u8 (c.toNat : Int)) ∧ ∀ w, S w → (execOp a.eval ⟨dd, .indexAddr t x i, ty, pos, af, gd⟩).run P w = .ok (.value (.pointer (some ad))) w := by
  obtain ⟨h1, h2⟩ := List.getElem?_eq_some_iff.1 hc
  obtain ⟨ao, cap, rfl, h3, h4, hn0, off, h5, h6⟩ := hv
  obtain ⟨inf, hi1, hz, hz1, hz2⟩ := info_parts hinfo
  have hne : bs ≠ [] := by intro e; subst e; simp at h1
  obtain rfl := h5 hne
  have e1 := H.ev hx
  have e2 := H.ev hi
  have hn : n < (bs.length : Int) := by omega
  refine ⟨⟨g, off + n.toNat, none⟩, rfl, by rw [h6 _ h1, h2], fun w _ => ?_⟩
  simp [execOp, e1, e2, Instr.indexAt, asIntOf, run_underlying ht, h0, hn, sizeOf, typeInfo, hi1, hz1, Addr.add_lit]
theorem y_defer {L rest : List Oper} {xs : List Operand} {vs : List Value} {x : Operand} {fv : Fn} {cap : Array Value} {ts : Array TypeId} (H : Has N D a l) (hx : ev l x = some (.func fv #[] cap)) (hxs : evs l xs = some vs)
    (h : ∀ a, Has N ({ target := .fn fv cap, args := vs.toArray } :: D) a l → wpList P L.toArray Q rest a w) : wpList P L.toArray Q (⟨none, .defer { callee := .value x, args := xs.toArray, argTypes := ts }, ty, pos, af, none⟩ :: rest) a w := by
  refine wpList_plain rfl fun K hK => ?_
  have h1 := H.ev hx
  have h2 := H.evs hxs
  have hr : (resolve a.eval { callee := .value x, args := xs.toArray, argTypes := ts } ty).run P w = .ok { target := .fn fv cap, args := vs.toArray } w := by
    unfold resolve
    simp only [h1, Deferred.ofValue]
    simp [h2]
  have hr2 : (execOp a.eval ⟨none, .defer { callee := .value x, args := xs.toArray, argTypes := ts }, ty, pos, af, none⟩).run P w = .ok (.defer { target := .fn fv cap, args := vs.toArray }) w := by
    simp [execOp, hr, Result.andThen]
  unfold Oper.wp
  rw [hr2]
  refine hK _ _ (h _ ⟨H.size, ?_, H.get⟩)
  show _ :: _ = _
  rw [H.defers]
end
section
variable {P : Program} {L rest : List Oper} {Q : Exit → Act → World → Prop} {w : World} {d : Nat} {ty : TypeId} {pos : String} {af : Array Edge}
/-- the length of any slice -/
theorem y_lenS {t e : TypeId} {x : Operand} {ao : Option Addr} {n c : Nat} (ht : P.underlying t = some (.slice e)) (H : Has N D a l) (hx : ev l x = some (.slice ao n c)) (hd : Nat.blt d N = true)
    (h : ∀ a, Has N D a ((d, .int .i64 (n : Int)) :: l) → wpList P L.toArray Q rest a w) : wpList P L.toArray Q (⟨some d, .call { callee := .builtin .len, args := #[x], argTypes := #[t] }, ty, pos, af, none⟩ :: rest) a w :=
  y_wp H hd (by have h1 := H.ev hx; simp [execOp, resolve, invoke, builtin, h1, Builtin.len_, run_underlying ht, goInt]) h
/-- bytes put together into a new row -/
theorem fill_bytes3 (a b c : Int) : Instr.fill (fun i => some (i * 1, 1)) ((Array.range (3 * 1)).map ((Value.int .u8 0).cells[· % (Value.int .u8 0).cells.size]!)) [(0, .int .u8 a), (1, .int .u8 b), (2, .int .u8 c)] = some #[.int .u8 a, .int .u8 b, .int .u8 c] := by kernel_rfl
theorem fill_bytes1 (a : Int) : Instr.fill (fun i => some (i * 1, 1)) ((Array.range (1 * 1)).map ((Value.int .u8 0).cells[· % (Value.int .u8 0).cells.size]!)) [(0, .int .u8 a)] = some #[.int .u8 a] := by kernel_rfl
theorem r_bs1 {t e : TypeId} {x : Operand} {c : Int} (ht : P.underlying t = some (.slice e)) (hinfo : (P.info? e).map (fun i => (i.zero, i.size, i.bytes)) = some (some (.int .u8 0), 1, 1)) (H : Has N D a l) (hx : ev l x = some (.int .u8 c)) :
    (execOp a.eval ⟨some d, .buildSlice t 1 #[(0, x)], ty, pos, af, none⟩).run P w = .ok (.value (.slice (some ⟨w.heap.size, 0, none⟩) 1 1)) (w.alloc (.cells #[.int .u8 c] e)) := by
  obtain ⟨inf, hi1, hz, hz1, hz2⟩ := info_parts hinfo
  have h1 := H.ev hx
  have := run_buildSlice (P := P) w t e 1 #[(0, .int .u8 c)] #[.int .u8 c] inf (.int .u8 0) ht hi1 hz (by rw [hz1]; decide) (by rw [hz1]; decide) (by rw [hz1]; exact fill_bytes1 c)
  simp [execOp, h1, this, Result.andThen]
theorem r_bs3 {t e : TypeId} {x y z : Operand} {b c f : Int} (ht : P.underlying t = some (.slice e)) (hinfo : (P.info? e).map (fun i => (i.zero, i.size, i.bytes)) = some (some (.int .u8 0), 1, 1)) (H : Has N D a l) (hx : ev l x = some (.int .u8 b)) (hy : ev l y = some (.int .u8 c)) (hz : ev l z = some (.int .u8 f)) :
    (execOp a.eval ⟨some d, .buildSlice t 3 #[(0, x), (1, y), (2, z)], ty, pos, af, none⟩).run P w = .ok (.value (.slice (some ⟨w.heap.size, 0, none⟩) 3 3)) (w.alloc (.cells #[.int .u8 b, .int .u8 c, .int .u8 f] e)) := by
  obtain ⟨inf, hi1, hz0, hz1, hz2⟩ := info_parts hinfo
  have h1 := H.ev hx
  have h2 := H.ev hy
  have h3 := H.ev hz
  have := run_buildSlice (P := P) w t e 3 #[(0, .int .u8 b), (1, .int .u8 c), (2, .int .u8 f)] #[.int .u8 b, .int .u8 c, .int .u8 f] inf (.int .u8 0) ht hi1 hz0 (by rw [hz1]; decide) (by rw [hz1]; decide) (by rw [hz1]; exact fill_bytes3 b c f)
  simp [execOp, h1, h2, h3, this, Result.andThen]
end
/-! ### a frame of which some slots are kept, in short -/
section
variable {N : Nat} {D : List Deferred} {a : Act} {l : List (Nat × Value)}
theorem Has.k2 (H : Has N D a l) (k0 k1 : Nat) {v0 v1 : Value} (h0 : look l k0 = some v0) (h1 : look l k1 = some v1) : Has N D a [(k0, v0), (k1, v1)] := H.sub _ (sub_cons h0 (sub_cons h1 (sub_nil)))
theorem Has.k3 (H : Has N D a l) (k0 k1 k2 : Nat) {v0 v1 v2 : Value} (h0 : look l k0 = some v0) (h1 : look l k1 = some v1) (h2 : look l k2 = some v2) : Has N D a [(k0, v0), (k1, v1), (k2, v2)] := H.sub _ (sub_cons h0 (sub_cons h1 (sub_cons h2 (sub_nil))))
theorem Has.k4 (H : Has N D a l) (k0 k1 k2 k3 : Nat) {v0 v1 v2 v3 : Value} (h0 : look l k0 = some v0) (h1 : look l k1 = some v1) (h2 : look l k2 = some v2) (h3 : look l k3 = some v3) : Has N D a [(k0, v0), (k1, v1), (k2, v2), (k3, v3)] := H.sub _ (sub_cons h0 (sub_cons h1 (sub_cons h2 (sub_cons h3 (sub_nil)))))
theorem Has.k5 (H : Has N D a l) (k0 k1 k2 k3 k4 : Nat) {v0 v1 v2 v3 v4 : Value} (h0 : look l k0 = some v0) (h1 : look l k1 = some v1) (h2 : look l k2 = some v2) (h3 : look l k3 = some v3) (h4 : look l k4 = some v4) : Has N D a [(k0, v0), (k1, v1), (k2, v2), (k3, v3), (k4, v4)] := H.sub _ (sub_cons h0 (sub_cons h1 (sub_cons h2 (sub_cons h3 (sub_cons h4 (sub_nil))))))
theorem Has.k6 (H : Has N D a l) (k0 k1 k2 k3 k4 k5 : Nat) {v0 v1 v2 v3 v4 v5 : Value} (h0 : look l k0 = some v0) (h1 : look l k1 = some v1) (h2 : look l k2 = some v2) (h3 : look l k3 = some v3) (h4 : look l k4 = some v4) (h5 : look l k5 = some v5) : Has N D a [(k0, v0), (k1, v1), (k2, v2), (k3, v3), (k4, v4), (k5, v5)] := H.sub _ (sub_cons h0 (sub_cons h1 (sub_cons h2 (sub_cons h3 (sub_cons h4 (sub_cons h5 (sub_nil)))))))
theorem Has.k7 (H : Has N D a l) (k0 k1 k2 k3 k4 k5 k6 : Nat) {v0 v1 v2 v3 v4 v5 v6 : Value} (h0 : look l k0 = some v0) (h1 : look l k1 = some v1) (h2 : look l k2 = some v2) (h3 : look l k3 = some v3) (h4 : look l k4 = some v4) (h5 : look l k5 = some v5) (h6 : look l k6 = some v6) : Has N D a [(k0, v0), (k1, v1), (k2, v2), (k3, v3), (k4, v4), (k5, v5), (k6, v6)] := H.sub _ (sub_cons h0 (sub_cons h1 (sub_cons h2 (sub_cons h3 (sub_cons h4 (sub_cons h5 (sub_cons h6 (sub_nil))))))))
theorem Has.k8 (H : Has N D a l) (k0 k1 k2 k3 k4 k5 k6 k7 : Nat) {v0 v1 v2 v3 v4 v5 v6 v7 : Value} (h0 : look l k0 = some v0) (h1 : look l k1 = some v1) (h2 : look l k2 = some v2) (h3 : look l k3 = some v3) (h4 : look l k4 = some v4) (h5 : look l k5 = some v5) (h6 : look l k6 = some v6) (h7 : look l k7 = some v7) : Has N D a [(k0, v0), (k1, v1), (k2, v2), (k3, v3), (k4, v4), (k5, v5), (k6, v6), (k7, v7)] := H.sub _ (sub_cons h0 (sub_cons h1 (sub_cons h2 (sub_cons h3 (sub_cons h4 (sub_cons h5 (sub_cons h6 (sub_cons h7 (sub_nil)))))))))
theorem Has.k9 (H : Has N D a l) (k0 k1 k2 k3 k4 k5 k6 k7 k8 : Nat) {v0 v1 v2 v3 v4 v5 v6 v7 v8 : Value} (h0 : look l k0 = some v0) (h1 : look l k1 = some v1) (h2 : look l k2 = some v2) (h3 : look l k3 = some v3) (h4 : look l k4 = some v4) (h5 : look l k5 = some v5) (h6 : look l k6 = some v6) (h7 : look l k7 = some v7) (h8 : look l k8 = some v8) : Has N D a [(k0, v0), (k1, v1), (k2, v2), (k3, v3), (k4, v4), (k5, v5), (k6, v6), (k7, v7), (k8, v8)] := H.sub _ (sub_cons h0 (sub_cons h1 (sub_cons h2 (sub_cons h3 (sub_cons h4 (sub_cons h5 (sub_cons h6 (sub_cons h7 (sub_cons h8 (sub_nil))))))))))
theorem Has.k10 (H : Has N D a l) (k0 k1 k2 k3 k4 k5 k6 k7 k8 k9 : Nat) {v0 v1 v2 v3 v4 v5 v6 v7 v8 v9 : Value} (h0 : look l k0 = some v0) (h1 : look l k1 = some v1) (h2 : look l k2 = some v2) (h3 : look l k3 = some v3) (h4 : look l k4 = some v4) (h5 : look l k5 = some v5) (h6 : look l k6 = some v6) (h7 : look l k7 = some v7) (h8 : look l k8 = some v8) (h9 : look l k9 = some v9) : Has N D a [(k0, v0), (k1, v1), (k2, v2), (k3, v3), (k4, v4), (k5, v5), (k6, v6), (k7, v7), (k8, v8), (k9, v9)] := H.sub _ (sub_cons h0 (sub_cons h1 (sub_cons h2 (sub_cons h3 (sub_cons h4 (sub_cons h5 (sub_cons h6 (sub_cons h7 (sub_cons h8 (sub_cons h9 (sub_nil)))))))))))
theorem Has.k11 (H : Has N D a l) (k0 k1 k2 k3 k4 k5 k6 k7 k8 k9 k10 : Nat) {v0 v1 v2 v3 v4 v5 v6 v7 v8 v9 v10 : Value} (h0 : look l k0 = some v0) (h1 : look l k1 = some v1) (h2 : look l k2 = some v2) (h3 : look l k3 = some v3) (h4 : look l k4 = some v4) (h5 : look l k5 = some v5) (h6 : look l k6 = some v6) (h7 : look l k7 = some v7) (h8 : look l k8 = some v8) (h9 : look l k9 = some v9) (h10 : look l k10 = some v10) : Has N D a [(k0, v0), (k1, v1), (k2, v2), (k3, v3), (k4, v4), (k5, v5), (k6, v6), (k7, v7), (k8, v8), (k9, v9), (k10, v10)] := H.sub _ (sub_cons h0 (sub_cons h1 (sub_cons h2 (sub_cons h3 (sub_cons h4 (sub_cons h5 (sub_cons h6 (sub_cons h7 (sub_cons h8 (sub_cons h9 (sub_cons h10 (sub_nil))))))))))))
theorem Has.k12 (H : Has N D a l) (k0 k1 k2 k3 k4 k5 k6 k7 k8 k9 k10 k11 : Nat) {v0 v1 v2 v3 v4 v5 v6 v7 v8 v9 v10 v11 : Value} (h0 : look l k0 = some v0) (h1 : look l k1 = some v1) (h2 : look l k2 = some v2) (h3 : look l k3 = some v3) (h4 : look l k4 = some v4) (h5 : look l k5 = some v5) (h6 : look l k6 = some v6) (h7 : look l k7 = some v7) (h8 : look l k8 = some v8) (h9 : look l k9 = some v9) (h10 : look l k10 = some v10) (h11 : look l k11 = some v11) : Has N D a [(k0, v0), (k1, v1), (k2, v2), (k3, v3), (k4, v4), (k5, v5), (k6, v6), (k7, v7), (k8, v8), (k9, v9), (k10, v10), (k11, v11)] := H.sub _ (sub_cons h0 (sub_cons h1 (sub_cons h2 (sub_cons h3 (sub_cons h4 (sub_cons h5 (sub_cons h6 (sub_cons h7 (sub_cons h8 (sub_cons h9 (sub_cons h10 (sub_cons h11 (sub_nil)))))))))))))
end
end Go.Proofs.YtjkmmhnhhiopiaaDoor
