/-
 append(b, s...) with a string, append(b, c) with a byte: what the new slice holds, and where it lies. Over any program.
-/
import Derived.Test.YtgdnpnipahegaaaGreatDoorJA
import Derived.Deep.AppendLies
import Derived.Deep.RegionHeld3
import Derived.Deep.DrawnRows
import Derived.Lib.AppendStr
namespace Go.Proofs.YtgdnpnipahegaaaGreatDoor
open Go.ChangeShapes Go.WideShapes Go.ChangeAt Go.RowKit

section
variable {P : Program} (w : World)
theorem run_append_str_at (base : Nat) (t u ty e : TypeId) (i : TypeInfo) (ht : P.underlying t = some (.slice e)) (hu : P.underlying u = some .string) (hi : P.info? e = some i) (hz : i.zero = some (.int .u8 0))
  (hsize : i.size = 1) (hby : i.bytes = 1)
  (v : Value) (n : Nat) (xs : List Value) (hown : w.ownsRow base e 1 v n xs) (s : ByteArray)
  (h63 : n + s.size ≤ maxLen) (hbytes : n + s.size ≤ 140737488355328) (hbase : base ≤ w.heap.size) :
  ∃ v' w', (Builtin.append_ #[t, u] ty #[v, .string s]).run P w = .ok v' w' ∧ w'.ownsRow base e 1 v' (n + s.size) (xs ++ Lib.strCells s) ∧ w.grownBy w' v.ownBlock ∧
   (v'.ownBlock = v.ownBlock ∨ v'.ownBlock = some w.heap.size) := by
 by_cases hs0 : s.size = 0
 ·-- nothing is appended: the old law, and a second look
  have hn : Lib.strCells s = [] := List.eq_nil_of_length_eq_zero (by rw [Lib.strCells_length]; exact hs0)
  rcases hown.2 with ⟨rfl, rfl⟩ | ⟨g, cap, cur, rfl, hbg, hg, hnc, hcm, hcs, htake⟩
  ·obtain ⟨v', w', h1, h2, h3, h4⟩ := Lib.run_append_own_string (P := P) w base t u ty e i ht hu hi hz hsize hby _ 0 xs hown s h63 hbytes hbase
   have := h4.2 ⟨rfl, hs0⟩
   subst this
   exact ⟨_, w', h1, h2, h3, .inl rfl⟩
  ·have hcs' : cur.size = cap := by simpa using hcs
   have hr := Lib.run_append_room_string (P := P) w t u ty e i ht hu hi hsize g n cap cur hg s (by omega) (by omega)
   obtain ⟨v', w', h1, h2, h3, h4⟩ := Lib.run_append_own_string (P := P) w base t u ty e i ht hu hi hz hsize hby _ n xs hown s h63 hbytes hbase
   rw [hr] at h1
   injection h1 with h1 h1'
   subst h1 h1'
   exact ⟨_, _, hr, h2, h3, .inl rfl⟩
 ·rcases hown.2 with ⟨rfl, rfl⟩ | ⟨g, cap, cur, rfl, hbg, hg, hnc, hcm, hcs, htake⟩
  ·obtain ⟨v', w', h1, h2, h3, h4⟩ := Lib.run_append_own_string (P := P) w base t u ty e i ht hu hi hz hsize hby _ 0 xs hown s h63 hbytes hbase
   have hr := run_append_nil_string (P := P) w t u ty e i (.int .u8 0) ht hu hi hz s (by omega) (by unfold maxLen at h63; omega) (by rw [hby]; omega)
   rw [hr] at h1
   injection h1 with h1 h1'
   subst h1 h1'
   exact ⟨_, _, hr, h2, h3, .inr rfl⟩
  ·have hcs' : cur.size = cap := by simpa using hcs
   have hxl : xs.length = n := by simpa using hown.1
   obtain ⟨v', w', h1, h2, h3, h4⟩ := Lib.run_append_own_string (P := P) w base t u ty e i ht hu hi hz hsize hby _ n xs hown s h63 hbytes hbase
   by_cases hroom : n + s.size ≤ cap
   ·have hr := Lib.run_append_room_string (P := P) w t u ty e i ht hu hi hsize g n cap cur hg s (by omega) (by omega)
    rw [hr] at h1
    injection h1 with h1 h1'
    subst h1 h1'
    exact ⟨_, _, hr, h2, h3, .inl rfl⟩
   ·have holds : ∀ j u, xs[j]? = some u → w.cell? ((⟨g, 0, none⟩ : Addr).add j) = some u := hown.cells (g := g) rfl
    have hr := Lib.run_append_grow_string (P := P) w t u ty e i (.int .u8 0) ht hu hi hz ⟨g, 0, none⟩ n cap xs (by rw [hsize]; simpa using hxl) holds s (by omega) (by unfold maxLen at h63; omega) (by rw [hby]; exact growslice_fits (by omega) (by omega))
    rw [hr] at h1
    injection h1 with h1 h1'
    subst h1 h1'
    exact ⟨_, _, hr, h2, h3, .inr rfl⟩
end

theorem strCells_bytes (l : List UInt8) : Lib.strCells ⟨l.toArray⟩ = byteCells l := by simp [Lib.strCells, byteCells]

theorem ownsRow_sliceA {w : World} {B : Nat} {e : TypeId} {z : Nat} {v : Value} {n : Nat} {xs : List Value} (h : w.ownsRow B e z v n xs) : ∃ ao c, v = .slice ao n c := by
 rcases h.2 with ⟨rfl, h0⟩ | ⟨g, cap, cur, rfl, _⟩
 ·exact ⟨none, 0, by rw [h0]⟩
 ·exact ⟨_, _, rfl⟩
theorem OwnB.sliceA {w : World} {B : Nat} {e : TypeId} {v : Value} {bs : List UInt8} (h : OwnB w B e v bs) : ∃ ao c, v = .slice ao bs.length c := ownsRow_sliceA h
structure Appd (w : World) (B : Nat) (e : TypeId) (v v' : Value) (bs : List UInt8) (w' : World) : Prop where
 own : OwnB w' B e v' bs
 grown : w.grownBy w' v.ownBlock
 lies : v'.ownBlock = v.ownBlock ∨ v'.ownBlock = some w.heap.size

section
variable {P : Program} {ops : Array Oper} {rest : List Oper} {o : Oper} {a : Act} {Q : Exit → Act → World → Prop} {K : Act → World → Prop} {E : Prop}

theorem wp_append_str (w : World) (s x : Operand) (t u : TypeId)
  (ho : o.op = .call { callee := .builtin .append, args := #[s, x], argTypes := #[t, u] })
  (B : Nat) (e : TypeId) (ht : P.underlying t = some (.slice e)) (hu : P.underlying u = some .string) (hinfo : (P.info? e).map (fun i => (i.zero, i.size, i.bytes)) = some (some (.int .u8 0), 1, 1))
  (v : Value) (bs : List UInt8) (hs : a.eval s = v) (hown : OwnB w B e v bs) (ys : List UInt8) (hx : a.eval x = .string ⟨ys.toArray⟩) (hbase : B ≤ w.heap.size)
  (hlen : bs.length + ys.length ≤ 140737488355328)
  (h : ∀ v' w', Appd w B e v v' (bs ++ ys) w' → K (a.put o.dst v') w') : o.wp P a w K Q := by
 obtain ⟨i, hi, hz, hz1, hz2⟩ := info_parts hinfo
 have hsz : (⟨ys.toArray⟩ : ByteArray).size = ys.length := size_mk ys
 obtain ⟨v', w', hr, h2, h3, h4⟩ := run_append_str_at (P := P) w B t u o.type e i ht hu hi hz hz1 hz2 v bs.length (byteCells bs) hown ⟨ys.toArray⟩ (by rw [hsz]; unfold maxLen; omega) (by rw [hsz]; omega) hbase
 rw [strCells_bytes, ← byteCells_append, hsz] at h2
 unfold Oper.wp execOp
 simp only [ho, resolve, invoke, builtin, Sem.run_bind, Sem.run_pure, Result.andThen_ok, List.map_toArray, List.map_cons, List.map_nil, hs, hx, hr]
 refine h v' w' ⟨?_, h3, h4⟩
 unfold OwnB
 rw [List.length_append]
 exact h2

theorem step_append_str (w : World) (hgd : o.guard = none) (s x : Operand) (t u : TypeId)
  (ho : o.op = .call { callee := .builtin .append, args := #[s, x], argTypes := #[t, u] })
  (B : Nat) (e : TypeId) (ht : P.underlying t = some (.slice e)) (hu : P.underlying u = some .string) (hinfo : (P.info? e).map (fun i => (i.zero, i.size, i.bytes)) = some (some (.int .u8 0), 1, 1))
  (v : Value) (bs : List UInt8) (hs : a.eval s = v) (hown : OwnB w B e v bs) (ys : List UInt8) (hx : a.eval x = .string ⟨ys.toArray⟩) (hbase : B ≤ w.heap.size)
  (hlen : bs.length + ys.length ≤ 140737488355328)
  (h : ∀ v' w', Appd w B e v v' (bs ++ ys) w' → K (a.put o.dst v') w') : if Region.wanted o (yielded ops a.tmps) = true then o.wp P a w K Q else E := by
 have hw : Region.wanted o (yielded ops a.tmps) = true := by simp [Region.wanted, hgd]
 rw [if_pos hw]
 exact wp_append_str w s x t u ho B e ht hu hinfo v bs hs hown ys hx hbase hlen h

theorem wpList_append_str (w : World) (hgd : o.guard = none) (s x : Operand) (t u : TypeId)
  (ho : o.op = .call { callee := .builtin .append, args := #[s, x], argTypes := #[t, u] })
  (B : Nat) (e : TypeId) (ht : P.underlying t = some (.slice e)) (hu : P.underlying u = some .string) (hinfo : (P.info? e).map (fun i => (i.zero, i.size, i.bytes)) = some (some (.int .u8 0), 1, 1))
  (v : Value) (bs : List UInt8) (hs : a.eval s = v) (hown : OwnB w B e v bs) (ys : List UInt8) (hx : a.eval x = .string ⟨ys.toArray⟩) (hbase : B ≤ w.heap.size)
  (hlen : bs.length + ys.length ≤ 140737488355328)
  (h : ∀ v' w', Appd w B e v v' (bs ++ ys) w' → wpList P ops Q rest (a.put o.dst v') w') : wpList P ops Q (o :: rest) a w :=
 wpList_plain hgd fun _ hK => wp_append_str w s x t u ho B e ht hu hinfo v bs hs hown ys hx hbase hlen fun v' w' h' => hK _ _ (h v' w' h')

theorem wpList_append_one (w : World) (hgd : o.guard = none) (s x : Operand) (t : TypeId)
  (ho : o.op = .call { callee := .builtin .append, args := #[s, x], argTypes := #[t, t] })
  (B : Nat) (e : TypeId) (ht : P.underlying t = some (.slice e)) (hinfo : (P.info? e).map (fun i => (i.zero, i.size, i.bytes)) = some (some (.int .u8 0), 1, 1))
  (v : Value) (bs : List UInt8) (hs : a.eval s = v) (hown : OwnB w B e v bs) (ad : Addr) (c : Nat) (y : UInt8) (hx : a.eval x = .slice (some ad) 1 c) (hc : w.cell? ad = some (.int .u8 (y.toNat : Int))) (hbase : B ≤ w.heap.size)
  (hlen : bs.length + 1 ≤ 140737488355328)
  (h : ∀ v' w', Appd w B e v v' (bs ++ [y]) w' → wpList P ops Q rest (a.put o.dst v') w') : wpList P ops Q (o :: rest) a w := by
 obtain ⟨i, hi, hz, hz1, hz2⟩ := info_parts hinfo
 refine wpList_append_lies w hgd s x t ho B e i (.int .u8 0) 1 1 ht hi hz hz1 hz2 rfl (by decide) v bs.length (byteCells bs) hs hown ad 1 c [.int .u8 (y.toNat : Int)] hx rfl ?_ (by intro u hu; simp at hu; subst hu; rfl) (by omega) (by unfold maxLen; omega) (by omega) hbase w.heap.size rfl ?_
 ·intro j u hj
  match j, hj with
  | 0, hj => simp at hj; subst hj; simpa [Addr.add] using hc
 ·intro g cap w' hown' hgrow hat hlt
  refine h _ w' ⟨?_, hgrow, ?_⟩
  ·have e1 : byteCells bs ++ [Value.int .u8 (y.toNat : Int)] = byteCells (bs ++ [y]) := by rw [byteCells_append]; rfl
   rw [e1] at hown'
   unfold OwnB
   simpa using hown'
  ·rcases hat with h | h
   ·exact .inl h.symm
   ·exact .inr (by simp [Value.ownBlock, h])
end
end Go.Proofs.YtgdnpnipahegaaaGreatDoor
