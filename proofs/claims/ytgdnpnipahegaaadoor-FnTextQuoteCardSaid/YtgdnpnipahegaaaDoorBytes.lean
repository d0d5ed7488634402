/-
  Slices of bytes that a call makes itself: what they hold, what an append of one byte leaves, and their text. Over any program.
-/
import Derived.Test.YtgdnpnipahegaaaDoorBase
namespace Go.Proofs.YtgdnpnipahegaaaDoor
open Go.RowKit

theorem hid {p : Prop} (h : p) : Hid p := h
theorem size_mk (l : List UInt8) : (ByteArray.mk l.toArray).size = l.length := List.size_toArray
theorem data_mk (l : List UInt8) : (ByteArray.mk l.toArray).data.toList = l := by simp
theorem ret_bool {a b : Bool} (h : a = true ↔ b = true) : Ending.returned (.bool a) = Ending.returned (.bool b) := by rw [Bool.eq_iff_iff.2 h]
theorem ret_int {k : IntKind} {a b : Int} (h : a = b) : Ending.returned (.int k a) = Ending.returned (.int k b) := by rw [h]
theorem byte_bd (b : UInt8) : 0 ≤ (b.toNat : Int) ∧ (b.toNat : Int) < 256 := by have := b.toNat_lt; omega
theorem byte_of (b : UInt8) : UInt8.ofNat ((b.toNat : Int)).toNat = b := by simp
theorem toNat_of {n : Int} (h : 0 ≤ n ∧ n < 256) : ((UInt8.ofNat n.toNat).toNat : Int) = n := by
  have : n.toNat < 256 := by omega
  simp [Nat.mod_eq_of_lt this]; omega

def byteCells (bs : List UInt8) : List Value := bs.map fun b => Value.int .u8 (b.toNat : Int)
theorem length_byteCells (bs : List UInt8) : (byteCells bs).length = bs.length := by simp [byteCells]
theorem byteCells_append (a b : List UInt8) : byteCells (a ++ b) = byteCells a ++ byteCells b := by simp [byteCells]

/-- The slice value v, nil or at the head of a block from B on, holds the bytes bs. -/
def OwnB (w : World) (B : Nat) (e : TypeId) (v : Value) (bs : List UInt8) : Prop := w.ownsRow B e 1 v bs.length (byteCells bs)

theorem OwnB.nil (w : World) (B : Nat) (e : TypeId) : OwnB w B e (.slice none 0 0) [] := World.ownsRow_nil w B e 1
theorem OwnB.alloc {w : World} {B : Nat} {e : TypeId} {v : Value} {bs : List UInt8} (h : OwnB w B e v bs) (o : Obj) : OwnB (w.alloc o) B e v bs := World.ownsRow.alloc h o
theorem OwnB.drew {w : World} {B : Nat} {e : TypeId} {v : Value} {bs : List UInt8} (h : OwnB w B e v bs) : OwnB w.drew B e v bs := h
theorem OwnB.eq {w : World} {B : Nat} {e : TypeId} {v : Value} {bs bs' : List UInt8} (h : OwnB w B e v bs) (he : bs = bs') : OwnB w B e v bs' := he ▸ h

theorem cellsOf_byteCells {w : World} {ad : Addr} {bs : List UInt8} (h : ∀ j u, (byteCells bs)[j]? = some u → w.cell? (ad.add j) = some u) :
    ∀ j (hj : j < bs.length), w.cell? (ad.add j) = some (.int .u8 (bs[j].toNat : Int)) := by
  intro j hj
  exact h j _ (by simp [byteCells, List.getElem?_eq_getElem hj])

theorem OwnB.cells {w : World} {B : Nat} {e : TypeId} {bs : List UInt8} {ad : Addr} {n c : Nat} (h : OwnB w B e (.slice (some ad) n c) bs) :
    n = bs.length ∧ ∀ j (hj : j < bs.length), w.cell? (ad.add j) = some (.int .u8 (bs[j].toNat : Int)) := by
  have h2 := h.2
  rcases h2 with ⟨h0, _⟩ | ⟨g, cap, cur, hv, _⟩
  · cases h0
  · injection hv with h1 h3 h4
    injection h1 with h1
    subst h1
    exact ⟨h3, cellsOf_byteCells (World.ownsRow.cells h (g := g) rfl)⟩

section
variable {P : Program} {ops : Array Oper} {rest : List Oper} {o : Oper} {a : Act} {Q : Exit → Act → World → Prop}

/-- 'append(b, c)', b the call's own. -/
theorem wpList_append_byte (w : World) (hgd : o.guard = none) (s x : Operand) (t : TypeId)
    (ho : o.op = .call { callee := .builtin .append, args := #[s, x], argTypes := #[t, t] })
    (B : Nat) (e : TypeId) (ht : P.underlying t = some (.slice e)) (hinfo : (P.info? e).map (fun i => (i.zero, i.size, i.bytes)) = some (some (.int .u8 0), 1, 1))
    (v : Value) (bs : List UInt8) (hs : a.eval s = v) (hown : OwnB w B e v bs) {w0 : World} (hb : Below B w0 w) (hB : B ≤ w0.heap.size)
    (n : Int) (hn : 0 ≤ n ∧ n < 256) (c : Nat) (hx : a.eval x = .slice (some ⟨w.heap.size, 0, none⟩) 1 c) (hlen : bs.length < 140737488355328)
    (h : ∀ v' w', OwnB w' B e v' (bs ++ [UInt8.ofNat n.toNat]) → Below B w0 w' → wpList P ops Q rest (a.put o.dst v') w') :
    wpList P ops Q (o :: rest) a (w.alloc (.cells #[.int .u8 n] e)) := by
  obtain ⟨i, hi, hz, hz1, hz2⟩ := info_parts hinfo
  have hsz := hb.size
  refine wpList_append_own _ hgd s x t ho B e i (.int .u8 0) 1 1 ht hi hz hz1 hz2 rfl (by decide) v bs.length (byteCells bs) hs (World.ownsRow.alloc hown _)
    ⟨w.heap.size, 0, none⟩ 1 c [.int .u8 n] hx rfl ?_ (by intro u hu; simp at hu; subst hu; rfl) (by unfold maxLen; omega) (by omega) (by simp; omega) ?_
  · intro j u hj
    match j, hj with
    | 0, hj => simp at hj; subst hj; simp [Addr.add]
  · intro v' w' hown' hgrow _
    refine h v' w' ?_ ?_
    · have e1 : byteCells bs ++ [Value.int .u8 n] = byteCells (bs ++ [UInt8.ofNat n.toNat]) := by
        rw [byteCells_append]
        unfold byteCells
        rw [List.map_cons, List.map_nil, toNat_of hn]
      rw [e1] at hown'
      unfold OwnB
      simpa using hown'
    · exact (hb.alloc (by omega) _).grown hgrow (by simp; omega) (fun k hk => (World.ownsRow.lt hown k hk).1)

/-- 'string(b)', b the call's own. -/
theorem wpList_string_own (w : World) (hgd : o.guard = none) (x : Operand) (src dst : TypeId) (ho : o.op = .convert src dst x)
    (B : Nat) (e : TypeId) (hs : P.underlying src = some (.slice e)) (he : P.underlying e = some (.int .u8)) (hd : P.underlying dst = some .string)
    (v : Value) (bs : List UInt8) (hx : a.eval x = v) (hown : OwnB w B e v bs)
    (h : wpList P ops Q rest (a.put o.dst (.string ⟨bs.toArray⟩)) w) : wpList P ops Q (o :: rest) a w := by
  refine wpList_plain hgd fun K hK => ?_
  have hrun : (convert src dst v).run P w = .ok (.string ⟨bs.toArray⟩) w := by
    have h2 := hown.2
    rcases h2 with ⟨rfl, h0⟩ | ⟨g, cap, cur, rfl, _⟩
    · have : bs = [] := List.eq_nil_of_length_eq_zero h0
      subst this
      rw [run_convert_bytes_string w src dst e none 0 0 hs he hd]
      simp [Conv.bytesToString]
      rfl
    · exact run_convert_bytes_back w src dst e _ cap bs hs he hd hown.cells.2
  unfold Oper.wp
  simp [execOp, ho, hx, hrun, Result.andThen]
  exact hK _ _ h
end
end Go.Proofs.YtgdnpnipahegaaaDoor
