/-
  The reference's writer of JSON in memory: what its four fields hold; what an append or a store leaves of that.
-/
import Derived.Test.YtjkmmhnhhiopiaaJModel
import Derived.Deep.AppendLies
import Derived.Deep.RegionHeld3
import Derived.Deep.DrawnRows
import Derived.Lib.AppendStr
namespace Go.Proofs.Ytjkmmhnhhiopiaa
open Go.ChangeShapes Go.WideShapes Go.ChangeAt Go.RowKit

section
variable {P : Program} (w : World)
/-- 'append(b, s...)', s a string: and where the new slice lies. -/
theorem run_append_str_at (base : Nat) (t u ty e : TypeId) (i : TypeInfo) (ht : P.underlying t = some (.slice e)) (hu : P.underlying u = some .string) (hi : P.info? e = some i) (hz : i.zero = some (.int .u8 0))
    (hsize : i.size = 1) (hby : i.bytes = 1)
    (v : Value) (n : Nat) (xs : List Value) (hown : w.ownsRow base e 1 v n xs) (s : ByteArray)
    (h63 : n + s.size ≤ maxLen) (hbytes : n + s.size ≤ 140737488355328) (hbase : base ≤ w.heap.size) :
    ∃ v' w', (Builtin.append_ #[t, u] ty #[v, .string s]).run P w = .ok v' w' ∧ w'.ownsRow base e 1 v' (n + s.size) (xs ++ Lib.strCells s) ∧ w.grownBy w' v.ownBlock ∧
      (v'.ownBlock = v.ownBlock ∨ v'.ownBlock = some w.heap.size) := by
  by_cases hs0 : s.size = 0
  · -- nothing is appended: the old law, and a second look
    have hn : Lib.strCells s = [] := List.eq_nil_of_length_eq_zero (by rw [Lib.strCells_length]; exact hs0)
    rcases hown.2 with ⟨rfl, rfl⟩ | ⟨g, cap, cur, rfl, hbg, hg, hnc, hcm, hcs, htake⟩
    · obtain ⟨v', w', h1, h2, h3, h4⟩ := Lib.run_append_own_string (P := P) w base t u ty e i ht hu hi hz hsize hby _ 0 xs hown s h63 hbytes hbase
      have := h4.2 ⟨rfl, hs0⟩
      subst this
      exact ⟨_, w', h1, h2, h3, .inl rfl⟩
    · have hcs' : cur.size = cap := by simpa using hcs
      have hr := Lib.run_append_room_string (P := P) w t u ty e i ht hu hi hsize g n cap cur hg s (by omega) (by omega)
      obtain ⟨v', w', h1, h2, h3, h4⟩ := Lib.run_append_own_string (P := P) w base t u ty e i ht hu hi hz hsize hby _ n xs hown s h63 hbytes hbase
      rw [hr] at h1
      injection h1 with h1 h1'
      subst h1 h1'
      exact ⟨_, _, hr, h2, h3, .inl rfl⟩
  · rcases hown.2 with ⟨rfl, rfl⟩ | ⟨g, cap, cur, rfl, hbg, hg, hnc, hcm, hcs, htake⟩
    · obtain ⟨v', w', h1, h2, h3, h4⟩ := Lib.run_append_own_string (P := P) w base t u ty e i ht hu hi hz hsize hby _ 0 xs hown s h63 hbytes hbase
      have hr := run_append_nil_string (P := P) w t u ty e i (.int .u8 0) ht hu hi hz s (by omega) (by unfold maxLen at h63; omega) (by rw [hby]; omega)
      rw [hr] at h1
      injection h1 with h1 h1'
      subst h1 h1'
      exact ⟨_, _, hr, h2, h3, .inr rfl⟩
    · have hcs' : cur.size = cap := by simpa using hcs
      have hxl : xs.length = n := by simpa using hown.1
      obtain ⟨v', w', h1, h2, h3, h4⟩ := Lib.run_append_own_string (P := P) w base t u ty e i ht hu hi hz hsize hby _ n xs hown s h63 hbytes hbase
      by_cases hroom : n + s.size ≤ cap
      · have hr := Lib.run_append_room_string (P := P) w t u ty e i ht hu hi hsize g n cap cur hg s (by omega) (by omega)
        rw [hr] at h1
        injection h1 with h1 h1'
        subst h1 h1'
        exact ⟨_, _, hr, h2, h3, .inl rfl⟩
      · have holds : ∀ j u, xs[j]? = some u → w.cell? ((⟨g, 0, none⟩ : Addr).add j) = some u := hown.cells (g := g) rfl
        have hr := Lib.run_append_grow_string (P := P) w t u ty e i (.int .u8 0) ht hu hi hz ⟨g, 0, none⟩ n cap xs (by rw [hsize]; simpa using hxl) holds s (by omega) (by unfold maxLen at h63; omega) (by rw [hby]; exact growslice_fits (by omega) (by omega))
        rw [hr] at h1
        injection h1 with h1 h1'
        subst h1 h1'
        exact ⟨_, _, hr, h2, h3, .inr rfl⟩
end

theorem strCells_bytes (l : List UInt8) : Lib.strCells ⟨l.toArray⟩ = byteCells l := by simp [Lib.strCells, byteCells]

theorem ownsRow_slice {w : World} {B : Nat} {e : TypeId} {z : Nat} {v : Value} {n : Nat} {xs : List Value} (h : w.ownsRow B e z v n xs) : ∃ ao c, v = .slice ao n c := by
  rcases h.2 with ⟨rfl, h0⟩ | ⟨g, cap, cur, rfl, _⟩
  · exact ⟨none, 0, by rw [h0]⟩
  · exact ⟨_, _, rfl⟩
theorem OwnB.slice {w : World} {B : Nat} {e : TypeId} {v : Value} {bs : List UInt8} (h : OwnB w B e v bs) : ∃ ao c, v = .slice ao bs.length c := ownsRow_slice h
/-- what append(b, ..) leaves: the new slice v' holds bs, only b's own row and what is new has changed, and v' lies in b's own row or in a new block -/
structure Appd (w : World) (B : Nat) (e : TypeId) (v v' : Value) (bs : List UInt8) (w' : World) : Prop where
  own : OwnB w' B e v' bs
  grown : w.grownBy w' v.ownBlock
  lies : v'.ownBlock = v.ownBlock ∨ v'.ownBlock = some w.heap.size

section
variable {P : Program} {ops : Array Oper} {rest : List Oper} {o : Oper} {a : Act} {Q : Exit → Act → World → Prop} {K : Act → World → Prop} {E : Prop}

theorem wp_append_str (w : World) (s x : Operand) (t u : TypeId)
    (ho : o.op = .call { callee := .builtin .append, args := #[s, x], argTypes := #[t, u] })
    (B : Nat) (e : TypeId) (ht : P.underlying t = some (.slice e)) (hu : P.underlying u = some .string) (hinfo : (P.info? e).map (fun i => (i.zero, i.size, i.bytes)) = some (some (.int .u8 0), 1, 1))
    (v : Value) (bs : List UInt8) (hs : a.eval s = v) (hown : OwnB w B e v bs) (ys : List UInt8) (hx : a.eval x = .string ⟨ys.toArray⟩) (hbase : B ≤ w.heap.size)
    (hlen : bs.length + ys.length ≤ 140737488355328)
    (h : ∀ v' w', Appd w B e v v' (bs ++ ys) w' → K (a.put o.dst v') w') : o.wp P a w K Q := by
  obtain ⟨i, hi, hz, hz1, hz2⟩ := info_parts hinfo
  have hsz : (⟨ys.toArray⟩ : ByteArray).size = ys.length := size_mk ys
  obtain ⟨v', w', hr, h2, h3, h4⟩ := run_append_str_at (P := P) w B t u o.type e i ht hu hi hz hz1 hz2 v bs.length (byteCells bs) hown ⟨ys.toArray⟩ (by rw [hsz]; unfold maxLen; omega) (by rw [hsz]; omega) hbase
  rw [strCells_bytes, ← byteCells_append, hsz] at h2
  unfold Oper.wp execOp
  simp only [ho, resolve, invoke, builtin, Sem.run_bind, Sem.run_pure, Result.andThen_ok, List.map_toArray, List.map_cons, List.map_nil, hs, hx, hr]
  refine h v' w' ⟨?_, h3, h4⟩
  unfold OwnB
  rw [List.length_append]
  exact h2

theorem step_append_str (w : World) (hgd : o.guard = none) (s x : Operand) (t u : TypeId)
    (ho : o.op = .call { callee := .builtin .append, args := #[s, x], argTypes := #[t, u] })
    (B : Nat) (e : TypeId) (ht : P.underlying t = some (.slice e)) (hu : P.underlying u = some .string) (hinfo : (P.info? e).map (fun i => (i.zero, i.size, i.bytes)) = some (some (.int .u8 0), 1, 1))
    (v : Value) (bs : List UInt8) (hs : a.eval s = v) (hown : OwnB w B e v bs) (ys : List UInt8) (hx : a.eval x = .string ⟨ys.toArray⟩) (hbase : B ≤ w.heap.size)
    (hlen : bs.length + ys.length ≤ 140737488355328)
    (h : ∀ v' w', Appd w B e v v' (bs ++ ys) w' → K (a.put o.dst v') w') : if Region.wanted o (yielded ops a.tmps) = true then o.wp P a w K Q else E := by
  have hw : Region.wanted o (yielded ops a.tmps) = true := by simp [Region.wanted, hgd]
  rw [if_pos hw]
  exact wp_append_str w s x t u ho B e ht hu hinfo v bs hs hown ys hx hbase hlen h

theorem wpList_append_str (w : World) (hgd : o.guard = none) (s x : Operand) (t u : TypeId)
    (ho : o.op = .call { callee := .builtin .append, args := #[s, x], argTypes := #[t, u] })
    (B : Nat) (e : TypeId) (ht : P.underlying t = some (.slice e)) (hu : P.underlying u = some .string) (hinfo : (P.info? e).map (fun i => (i.zero, i.size, i.bytes)) = some (some (.int .u8 0), 1, 1))
    (v : Value) (bs : List UInt8) (hs : a.eval s = v) (hown : OwnB w B e v bs) (ys : List UInt8) (hx : a.eval x = .string ⟨ys.toArray⟩) (hbase : B ≤ w.heap.size)
    (hlen : bs.length + ys.length ≤ 140737488355328)
    (h : ∀ v' w', Appd w B e v v' (bs ++ ys) w' → wpList P ops Q rest (a.put o.dst v') w') : wpList P ops Q (o :: rest) a w :=
  wpList_plain hgd fun _ hK => wp_append_str w s x t u ho B e ht hu hinfo v bs hs hown ys hx hbase hlen fun v' w' h' => hK _ _ (h v' w' h')

/-- 'append(b, c)': one byte, built in a block of its own -/
theorem wpList_append_one (w : World) (hgd : o.guard = none) (s x : Operand) (t : TypeId)
    (ho : o.op = .call { callee := .builtin .append, args := #[s, x], argTypes := #[t, t] })
    (B : Nat) (e : TypeId) (ht : P.underlying t = some (.slice e)) (hinfo : (P.info? e).map (fun i => (i.zero, i.size, i.bytes)) = some (some (.int .u8 0), 1, 1))
    (v : Value) (bs : List UInt8) (hs : a.eval s = v) (hown : OwnB w B e v bs) (ad : Addr) (c : Nat) (y : UInt8) (hx : a.eval x = .slice (some ad) 1 c) (hc : w.cell? ad = some (.int .u8 (y.toNat : Int))) (hbase : B ≤ w.heap.size)
    (hlen : bs.length + 1 ≤ 140737488355328)
    (h : ∀ v' w', Appd w B e v v' (bs ++ [y]) w' → wpList P ops Q rest (a.put o.dst v') w') : wpList P ops Q (o :: rest) a w := by
  obtain ⟨i, hi, hz, hz1, hz2⟩ := info_parts hinfo
  refine wpList_append_lies w hgd s x t ho B e i (.int .u8 0) 1 1 ht hi hz hz1 hz2 rfl (by decide) v bs.length (byteCells bs) hs hown ad 1 c [.int .u8 (y.toNat : Int)] hx rfl ?_ (by intro u hu; simp at hu; subst hu; rfl) (by omega) (by unfold maxLen; omega) (by omega) hbase w.heap.size rfl ?_
  · intro j u hj
    match j, hj with
    | 0, hj => simp at hj; subst hj; simpa [Addr.add] using hc
  · intro g cap w' hown' hgrow hat hlt
    refine h _ w' ⟨?_, hgrow, ?_⟩
    · have e1 : byteCells bs ++ [Value.int .u8 (y.toNat : Int)] = byteCells (bs ++ [y]) := by rw [byteCells_append]; rfl
      rw [e1] at hown'
      unfold OwnB
      simpa using hown'
    · rcases hat with h | h
      · exact .inl h.symm
      · exact .inr (by simp [Value.ownBlock, h])
end

def tokCells (t : JT) : List Value := [.int .i64 t.kind, .int .i64 t.pos, .string ⟨t.raw.toArray⟩, .string ⟨t.str.toArray⟩, .bool t.tru]
def OwnT (w : World) (B : Nat) (v : Value) (l : List JT) : Prop := w.ownsRow B 32 5 v l.length (l.flatMap tokCells)

/-- The writer behind the pointer ⟨p, 0⟩: its fields' values, and what they hold. B: the heap's size ahead of it. -/
structure JW (B p g : Nat) (ps : List UInt8) (vb vp vl : Value) (s : JS) (w : World) : Prop where
  c0 : w.cell? ⟨p, 0, none⟩ = some vb
  c1 : w.cell? ⟨p, 1, none⟩ = some vp
  c2 : w.cell? ⟨p, 2, none⟩ = some (.int .i64 s.k)
  c3 : w.cell? ⟨p, 3, none⟩ = some vl
  f0 : w.frozen? ⟨p, 0, none⟩ = false
  f2 : w.frozen? ⟨p, 2, none⟩ = false
  f3 : w.frozen? ⟨p, 3, none⟩ = false
  b : OwnB w B 5 vb s.b
  v : View w g vp ps
  l : OwnT w B vl s.l
  hp : B ≤ p
  hg : ps ≠ [] → g < B
  nb : vb.ownBlock ≠ some p
  nl : vl.ownBlock ≠ some p
  bl : ∀ k, vb.ownBlock = some k → vl.ownBlock ≠ some k

theorem JW.lt {B p g : Nat} {ps : List UInt8} {vb vp vl : Value} {s : JS} {w : World} (h : JW B p g ps vb vp vl s w) : p < w.heap.size := World.block_lt_of_cell? w _ h.c0
theorem JW.base {B p g : Nat} {ps : List UInt8} {vb vp vl : Value} {s : JS} {w : World} (h : JW B p g ps vb vp vl s w) : B ≤ w.heap.size := by have := h.lt; have := h.hp; omega
/-- what is kept where only blocks other than its own have changed -/
theorem JW.kept {B p g : Nat} {ps : List UInt8} {vb vp vl : Value} {s : JS} {w w' : World} (h : JW B p g ps vb vp vl s w) (hp : w'.heap[p]? = w.heap[p]?) (hB : ∀ k, k < B → w'.heap[k]? = w.heap[k]?)
    (hb : OwnB w' B 5 vb s.b) (hl : OwnT w' B vl s.l) : JW B p g ps vb vp vl s w' where
  c0 := by rw [World.cell?_of_block hp]; exact h.c0
  c1 := by rw [World.cell?_of_block hp]; exact h.c1
  c2 := by rw [World.cell?_of_block hp]; exact h.c2
  c3 := by rw [World.cell?_of_block hp]; exact h.c3
  f0 := by rw [World.frozen?_of_block hp]; exact h.f0
  f2 := by rw [World.frozen?_of_block hp]; exact h.f2
  f3 := by rw [World.frozen?_of_block hp]; exact h.f3
  b := hb
  v := by
    by_cases hne : ps = []
    · obtain ⟨ao, cap, hv, h1, h2, hn0, off, h3, h4⟩ := h.v
      exact ⟨ao, cap, hv, h1, h2, hn0, off, h3, fun j hj => by rw [hne] at hj; simp at hj⟩
    · exact h.v.kept (hB g (h.hg hne))
  l := hl
  hp := h.hp
  hg := h.hg
  nb := h.nb
  nl := h.nl
  bl := h.bl
theorem JW.below {B p g : Nat} {ps : List UInt8} {vb vp vl : Value} {s : JS} {w w' : World} (h : JW B p g ps vb vp vl s w) (hb : Below w.heap.size w w') : JW B p g ps vb vp vl s w' :=
  h.kept (hb.block p h.lt) (fun k hk => hb.block k (by have := h.base; omega))
    (World.ownsRow.kept h.b (row := none) ⟨hb.os, hb.tape, hb.output, hb.size, fun k hk _ => hb.block k hk⟩ (by cases vb.ownBlock <;> simp))
    (World.ownsRow.kept h.l (row := none) ⟨hb.os, hb.tape, hb.output, hb.size, fun k hk _ => hb.block k hk⟩ (by cases vl.ownBlock <;> simp))
theorem JW.alloc {B p g : Nat} {ps : List UInt8} {vb vp vl : Value} {s : JS} {w : World} (h : JW B p g ps vb vp vl s w) (o : Obj) : JW B p g ps vb vp vl s (w.alloc o) := h.below ((Below.refl _ _).alloc (Nat.le_refl _) _)
theorem JW.drew {B p g : Nat} {ps : List UInt8} {vb vp vl : Value} {s : JS} {w : World} (h : JW B p g ps vb vp vl s w) : JW B p g ps vb vp vl s w.drew := h.below (Below.refl _ _).drew
theorem JW.drewN {B p g : Nat} {ps : List UInt8} {vb vp vl : Value} {s : JS} {w : World} (h : JW B p g ps vb vp vl s w) (n : Nat) : JW B p g ps vb vp vl s (w.drewN n) := h.below ⟨rfl, rfl, rfl, Nat.le_refl _, fun _ _ => rfl⟩

theorem grownBy_setCell (w : World) (p o : Nat) (v : Value) : w.grownBy (w.setCell ⟨p, o, none⟩ v) (some p) :=
  ⟨rfl, rfl, rfl, by simp [World.setCell], fun k _ hne => Below.heap_setCell w ⟨p, o, none⟩ v k (fun e => hne (by simp [e]))⟩
theorem setCell_other {w : World} {a b : Addr} (v : Value) (h : b ≠ a) : (w.setCell a v).cell? b = w.cell? b := World.cell?_setCell_other w a b v (Ne.symm h)
theorem setCell_same1 {w : World} {a : Addr} {u : Value} (v : Value) (h : w.cell? a = some u) : (w.setCell a v).cell? a = some v := World.cell?_setCell_same w a v h

/-- 'w.at++' -/
theorem JW.pick {B p g : Nat} {ps : List UInt8} {vb vp vl : Value} {s : JS} {w : World} (h : JW B p g ps vb vp vl s w) (k : Nat) : JW B p g ps vb vp vl { s with k := k } (w.setCell ⟨p, 2, none⟩ (.int .i64 k)) where
  c0 := by rw [setCell_other _ (by simp)]; exact h.c0
  c1 := by rw [setCell_other _ (by simp)]; exact h.c1
  c2 := setCell_same1 _ h.c2
  c3 := by rw [setCell_other _ (by simp)]; exact h.c3
  f0 := by rw [World.frozen?_setCell]; exact h.f0
  f2 := by rw [World.frozen?_setCell]; exact h.f2
  f3 := by rw [World.frozen?_setCell]; exact h.f3
  b := World.ownsRow.kept h.b (grownBy_setCell w p 2 _) (.inr h.nb)
  v := by
    by_cases hne : ps = []
    · obtain ⟨ao, cap, hv, h1, h2, hn0, off, h3, h4⟩ := h.v
      exact ⟨ao, cap, hv, h1, h2, hn0, off, h3, fun j hj => by rw [hne] at hj; simp at hj⟩
    · have h1 := h.hg hne
      have h2 := h.hp
      exact h.v.kept (Below.heap_setCell w _ _ g (by simp; omega))
  l := World.ownsRow.kept h.l (grownBy_setCell w p 2 _) (.inr h.nl)
  hp := h.hp
  hg := h.hg
  nb := h.nb
  nl := h.nl
  bl := h.bl

/-- 'w.b = append(w.b, ..)' -/
theorem JW.put {B p g : Nat} {ps : List UInt8} {vb v' vp vl : Value} {s : JS} {w w' : World} {bs : List UInt8} (h : JW B p g ps vb vp vl s w) (ha : Appd w B 5 vb v' bs w') : JW B p g ps v' vp vl { s with b := bs } (w'.setCell ⟨p, 0, none⟩ v') := by
  have hlt := h.lt
  have hpb : w'.heap[p]? = w.heap[p]? := ha.grown.block p hlt (fun e => h.nb e.symm)
  have hB : ∀ k, k < B → w'.heap[k]? = w.heap[k]? := fun k hk => ha.grown.block k (by have := h.base; omega) (fun e => by have := (World.ownsRow.lt h.b k e.symm).1; omega)
  have hnp : v'.ownBlock ≠ some p := by
    rcases ha.lies with e | e
    · rw [e]; exact h.nb
    · rw [e]; intro e2; simp at e2; omega
  have hl : OwnT w' B vl s.l := World.ownsRow.kept h.l ha.grown (by
    cases hk : vl.ownBlock with
    | none => exact .inl rfl
    | some k => exact .inr (fun e => h.bl k e.symm hk))
  exact {
    c0 := setCell_same1 _ (by rw [World.cell?_of_block hpb]; exact h.c0)
    c1 := by rw [setCell_other _ (by simp), World.cell?_of_block hpb]; exact h.c1
    c2 := by rw [setCell_other _ (by simp), World.cell?_of_block hpb]; exact h.c2
    c3 := by rw [setCell_other _ (by simp), World.cell?_of_block hpb]; exact h.c3
    f0 := by rw [World.frozen?_setCell, World.frozen?_of_block hpb]; exact h.f0
    f2 := by rw [World.frozen?_setCell, World.frozen?_of_block hpb]; exact h.f2
    f3 := by rw [World.frozen?_setCell, World.frozen?_of_block hpb]; exact h.f3
    b := World.ownsRow.kept ha.own (grownBy_setCell w' p 0 _) (.inr hnp)
    v := by
      by_cases hne : ps = []
      · obtain ⟨ao, cap, hv, h1, h2, hn0, off, h3, h4⟩ := h.v
        exact ⟨ao, cap, hv, h1, h2, hn0, off, h3, fun j hj => by rw [hne] at hj; simp at hj⟩
      · have h1 := h.hg hne
        have h2 := h.hp
        exact (h.v.kept (hB g h1)).kept (Below.heap_setCell w' _ _ g (by simp; omega))
    l := World.ownsRow.kept hl (grownBy_setCell w' p 0 _) (.inr h.nl)
    hp := h.hp
    hg := h.hg
    nb := hnp
    nl := h.nl
    bl := by
      intro k hk
      rcases ha.lies with e | e
      · exact h.bl k (by rw [← e]; exact hk)
      · rw [e] at hk
        injection hk with hk
        intro e2
        have := (World.ownsRow.lt h.l k e2).2
        omega }
theorem JW.appd {B p g : Nat} {ps : List UInt8} {vb v' vp vl : Value} {s : JS} {w w' : World} {bs : List UInt8} (h : JW B p g ps vb vp vl s w) (ha : Appd w B 5 vb v' bs w') : w'.cell? ⟨p, 0, none⟩ = some vb ∧ w'.frozen? ⟨p, 0, none⟩ = false := by
  have hpb : w'.heap[p]? = w.heap[p]? := ha.grown.block p h.lt (fun e => h.nb e.symm)
  exact ⟨by rw [World.cell?_of_block hpb]; exact h.c0, by rw [World.frozen?_of_block hpb]; exact h.f0⟩
/-- what append(w.l, t) leaves -/
structure Appt (w : World) (B : Nat) (v v' : Value) (l : List JT) (w' : World) : Prop where
  own : OwnT w' B v' l
  grown : w.grownBy w' v.ownBlock
  lies : v'.ownBlock = v.ownBlock ∨ v'.ownBlock = some w.heap.size
theorem JW.add {B p g : Nat} {ps : List UInt8} {vb v' vp vl : Value} {s : JS} {w w' : World} {l : List JT} (h : JW B p g ps vb vp vl s w) (ha : Appt w B vl v' l w') : JW B p g ps vb vp v' { s with l := l } (w'.setCell ⟨p, 3, none⟩ v') := by
  have hlt := h.lt
  have hpb : w'.heap[p]? = w.heap[p]? := ha.grown.block p hlt (fun e => h.nl e.symm)
  have hB : ∀ k, k < B → w'.heap[k]? = w.heap[k]? := fun k hk => ha.grown.block k (by have := h.base; omega) (fun e => by have := (World.ownsRow.lt h.l k e.symm).1; omega)
  have hnp : v'.ownBlock ≠ some p := by
    rcases ha.lies with e | e
    · rw [e]; exact h.nl
    · rw [e]; intro e2; simp at e2; omega
  have hb : OwnB w' B 5 vb s.b := World.ownsRow.kept h.b ha.grown (by
    cases hk : vb.ownBlock with
    | none => exact .inl rfl
    | some k => exact .inr (fun e => h.bl k hk e.symm))
  exact {
    c0 := by rw [setCell_other _ (by simp), World.cell?_of_block hpb]; exact h.c0
    c1 := by rw [setCell_other _ (by simp), World.cell?_of_block hpb]; exact h.c1
    c2 := by rw [setCell_other _ (by simp), World.cell?_of_block hpb]; exact h.c2
    c3 := setCell_same1 _ (by rw [World.cell?_of_block hpb]; exact h.c3)
    f0 := by rw [World.frozen?_setCell, World.frozen?_of_block hpb]; exact h.f0
    f2 := by rw [World.frozen?_setCell, World.frozen?_of_block hpb]; exact h.f2
    f3 := by rw [World.frozen?_setCell, World.frozen?_of_block hpb]; exact h.f3
    b := World.ownsRow.kept hb (grownBy_setCell w' p 3 _) (.inr h.nb)
    v := by
      by_cases hne : ps = []
      · obtain ⟨ao, cap, hv, h1, h2, hn0, off, h3, h4⟩ := h.v
        exact ⟨ao, cap, hv, h1, h2, hn0, off, h3, fun j hj => by rw [hne] at hj; simp at hj⟩
      · have h1 := h.hg hne
        have h2 := h.hp
        exact (h.v.kept (hB g h1)).kept (Below.heap_setCell w' _ _ g (by simp; omega))
    l := World.ownsRow.kept ha.own (grownBy_setCell w' p 3 _) (.inr hnp)
    hp := h.hp
    hg := h.hg
    nb := h.nb
    nl := hnp
    bl := by
      intro k hk e2
      rcases ha.lies with e | e
      · exact h.bl k hk (by rw [← e]; exact e2)
      · rw [e] at e2
        injection e2 with e2
        have := (World.ownsRow.lt h.b k hk).2
        omega }

/-- what a call on the writer may change: the writer itself, its two own rows, and what is new; where the new rows lie -/
structure JStep (p : Nat) (vb vl : Value) (w : World) (vb' vl' : Value) (w' : World) : Prop where
  os : w'.os = w.os
  tape : w'.tape = w.tape
  output : w'.output = w.output
  size : w.heap.size ≤ w'.heap.size
  block : ∀ k, k < w.heap.size → k ≠ p → vb.ownBlock ≠ some k → vl.ownBlock ≠ some k → w'.heap[k]? = w.heap[k]?
  lb : ∀ k, vb'.ownBlock = some k → vb.ownBlock = some k ∨ w.heap.size ≤ k
  ll : ∀ k, vl'.ownBlock = some k → vl.ownBlock = some k ∨ w.heap.size ≤ k
theorem JStep.of_below {p : Nat} {vb vl : Value} {w w' : World} (h : Below w.heap.size w w') : JStep p vb vl w vb vl w' :=
  ⟨h.os, h.tape, h.output, h.size, fun k hk _ _ _ => h.block k hk, fun _ h => .inl h, fun _ h => .inl h⟩
theorem JStep.refl (p : Nat) (vb vl : Value) (w : World) : JStep p vb vl w vb vl w := JStep.of_below (Below.refl _ _)
theorem JStep.trans {p : Nat} {vb vl vb1 vl1 vb2 vl2 : Value} {w w1 w2 : World} (h : JStep p vb vl w vb1 vl1 w1) (g : JStep p vb1 vl1 w1 vb2 vl2 w2) : JStep p vb vl w vb2 vl2 w2 := by
  have hs := h.size
  refine ⟨g.os.trans h.os, g.tape.trans h.tape, g.output.trans h.output, Nat.le_trans h.size g.size, fun k hk h1 h2 h3 => ?_, fun k hk => ?_, fun k hk => ?_⟩
  · rw [g.block k (by omega) h1 (fun e => by rcases h.lb k e with e | e; exact h2 e; omega) (fun e => by rcases h.ll k e with e | e; exact h3 e; omega)]
    exact h.block k hk h1 h2 h3
  · rcases g.lb k hk with e | e
    · exact h.lb k e
    · exact .inr (by omega)
  · rcases g.ll k hk with e | e
    · exact h.ll k e
    · exact .inr (by omega)
theorem JStep.picked {p : Nat} {vb vl : Value} {w w' : World} (h : w.grownBy w' (some p)) : JStep p vb vl w vb vl w' :=
  ⟨h.os, h.tape, h.output, h.size, fun k hk h1 _ _ => h.block k hk (fun e => h1 (by injection e)), fun _ h => .inl h, fun _ h => .inl h⟩
theorem size_setCell (w : World) (a : Addr) (u : Value) : (w.setCell a u).heap.size = w.heap.size := by simp [World.setCell]
theorem JStep.put {p B : Nat} {e : TypeId} {vb v' vl : Value} {w w' : World} {bs : List UInt8} (h : Appd w B e vb v' bs w') (o : Nat) (u : Value) : JStep p vb vl w v' vl (w'.setCell ⟨p, o, none⟩ u) :=
  ⟨h.grown.os, h.grown.tape, h.grown.output, by rw [size_setCell]; exact h.grown.size, fun k hk h1 h2 _ => by
    rw [Below.heap_setCell w' _ _ k (by simpa using h1)]
    exact h.grown.block k hk (fun e => h2 e.symm), fun k hk => by
    rcases h.lies with e | e
    · exact .inl (by rw [← e]; exact hk)
    · rw [e] at hk; injection hk with hk; exact .inr (by omega), fun _ h => .inl h⟩
theorem JStep.add {p B : Nat} {vb v' vl : Value} {w w' : World} {l : List JT} (h : Appt w B vl v' l w') (o : Nat) (u : Value) : JStep p vb vl w vb v' (w'.setCell ⟨p, o, none⟩ u) :=
  ⟨h.grown.os, h.grown.tape, h.grown.output, by rw [size_setCell]; exact h.grown.size, fun k hk h1 _ h2 => by
    rw [Below.heap_setCell w' _ _ k (by simpa using h1)]
    exact h.grown.block k hk (fun e => h2 e.symm), fun _ h => .inl h, fun k hk => by
    rcases h.lies with e | e
    · exact .inl (by rw [← e]; exact hk)
    · rw [e] at hk; injection hk with hk; exact .inr (by omega)⟩
theorem JStep.below {B p g : Nat} {ps : List UInt8} {vb vp vl vb' vl' : Value} {s : JS} {w w' : World} (h : JStep p vb vl w vb' vl' w') (hw : JW B p g ps vb vp vl s w) : Below B w w' :=
  ⟨h.os, h.tape, h.output, h.size, fun k hk => by
    have := hw.base
    have := hw.hp
    exact h.block k (by omega) (by omega) (fun e => by have := (World.ownsRow.lt hw.b k e).1; omega) (fun e => by have := (World.ownsRow.lt hw.l k e).1; omega)⟩

theorem JStep.alloc {p : Nat} {vb vl vb' vl' : Value} {w w' : World} (h : JStep p vb vl w vb' vl' w') (o : Obj) : JStep p vb vl w vb' vl' (w'.alloc o) := h.trans (JStep.of_below ((Below.refl _ _).alloc (Nat.le_refl _) _))
theorem JStep.drew {p : Nat} {vb vl vb' vl' : Value} {w w' : World} (h : JStep p vb vl w vb' vl' w') : JStep p vb vl w vb' vl' w'.drew := h.trans (JStep.of_below (Below.refl _ _).drew)
/-- a cell that is neither the writer's nor its rows' is as it was -/
theorem JStep.cell {p : Nat} {vb vl vb' vl' : Value} {w w' : World} (h : JStep p vb vl w vb' vl' w') {a : Addr} (hl : a.block < w.heap.size) (h1 : a.block ≠ p) (h2 : vb.ownBlock ≠ some a.block) (h3 : vl.ownBlock ≠ some a.block) : w'.cell? a = w.cell? a ∧ w'.frozen? a = w.frozen? a :=
  ⟨World.cell?_of_block (h.block _ hl h1 h2 h3), World.frozen?_of_block (h.block _ hl h1 h2 h3)⟩

section
variable {P : Program} {ops : Array Oper} {rest : List Oper} {o : Oper} {a : Act} {Q : Exit → Act → World → Prop} {K : Act → World → Prop} {E : Prop}
theorem step_append_tok (w : World) (hgd : o.guard = none) (s x : Operand) (t : TypeId)
    (ho : o.op = .call { callee := .builtin .append, args := #[s, x], argTypes := #[t, t] })
    (B : Nat) (ht : P.underlying t = some (.slice 32)) (hinfo : (P.info? 32).map (fun i => (i.zero, i.size, i.bytes)) = some (some (.agg #[.int .i64 0, .int .i64 0, .string ⟨#[]⟩, .string ⟨#[]⟩, .bool false]), 5, 56))
    (v : Value) (l : List JT) (hs : a.eval s = v) (hown : OwnT w B v l) (ad : Addr) (c : Nat) (y : JT) (hx : a.eval x = .slice (some ad) 1 c) (hc : ∀ j u, (tokCells y)[j]? = some u → w.cell? (ad.add j) = some u) (hbase : B ≤ w.heap.size)
    (hlen : l.length ≤ 1000000)
    (h : ∀ v' w', Appt w B v v' (l ++ [y]) w' → K (a.put o.dst v') w') : if Region.wanted o (yielded ops a.tmps) = true then o.wp P a w K Q else E := by
  obtain ⟨i, hi, hz, hz1, hz2⟩ := info_parts hinfo
  refine step_append_lies w hgd s x t ho B _ i _ 5 56 ht hi hz hz1 hz2 rfl (by decide) v l.length (l.flatMap tokCells) hs hown ad 1 c (tokCells y) hx rfl hc (by intro u hu; simp [tokCells] at hu; rcases hu with rfl | rfl | rfl | rfl | rfl <;> rfl) (by omega) (by unfold maxLen; omega) (by omega) hbase w.heap.size rfl ?_
  intro g cap w' hown' hgrow hat hlt
  refine h _ w' ⟨?_, hgrow, ?_⟩
  · unfold OwnT
    rw [List.flatMap_append, List.length_append]
    simpa using hown'
  · rcases hat with h | h
    · exact .inl h.symm
    · exact .inr (by simp [Value.ownBlock, h])
end
theorem OwnT.slice {w : World} {B : Nat} {v : Value} {l : List JT} (h : OwnT w B v l) : ∃ ao c, v = .slice ao l.length c := ownsRow_slice h
theorem JW.appt {B p g : Nat} {ps : List UInt8} {vb v' vp vl : Value} {s : JS} {w w' : World} {l : List JT} (h : JW B p g ps vb vp vl s w) (ha : Appt w B vl v' l w') : w'.cell? ⟨p, 3, none⟩ = some vl ∧ w'.frozen? ⟨p, 3, none⟩ = false := by
  have hpb : w'.heap[p]? = w.heap[p]? := ha.grown.block p h.lt (fun e => h.nl e.symm)
  exact ⟨by rw [World.cell?_of_block hpb]; exact h.c3, by rw [World.frozen?_of_block hpb]; exact h.f3⟩
end Go.Proofs.Ytjkmmhnhhiopiaa
