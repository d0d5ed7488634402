/-
  The law FnJsonEscapes: characters that are written as escapes of 16 bits, in pairs from 65,536 on, are read as these. The listed variables hold the tables of UTF-8 and the named errors.
-/
import Derived.Test.YtjkmmhnhhiopiaaDoorDJPeeks
import Derived.Test.YtjkmmhnhhiopiaaDoorFEsc
import Derived.Test.YtjkmmhnhhiopiaaDoorDOpen
import Derived.ChangeSlices
namespace Go.Proofs.YtjkmmhnhhiopiaaDoor
open Go.ChangeShapes Go.WideShapes Go.ChangeAt Go.RowKit

def hexSet : ByteArray := { data := #[48, 49, 50, 51, 52, 53, 54, 55, 56, 57, 97, 98, 99, 100, 101, 102] }
theorem hexSet_all : ∀ d : Fin 16, (hexSet.extract d.val (d.val + 1)).data = #[hexT false d.val] := by decide +kernel
theorem hexSet_at {d : Nat} (h : d < 16) : hexSet.extract d (d + 1) = ⟨#[hexT false d]⟩ := by
  have := hexSet_all ⟨d, h⟩
  rcases hx : hexSet.extract d (d + 1) with ⟨a⟩
  rw [hx] at this
  exact congrArg ByteArray.mk this
theorem and15 {x : Int} (h0 : 0 ≤ x) (h1 : x < 2147483648) : bits .and .i64 x 15 = x % 16 := bits_mask .i64 63 (by decide) wraps_i64' 4 (by decide) x h0 (by omega)
theorem and1023 {x : Int} (h0 : 0 ≤ x) (h1 : x < 2147483648) : bits .and .i64 x 1023 = x % 1024 := bits_mask .i64 63 (by decide) wraps_i64' 10 (by decide) x h0 (by omega)
theorem esc_text (n : Nat) (_hn : n < 65536) : (⟨#[92, 117]⟩ : ByteArray) ++ hexSet.extract (n / 4096 % 16) (n / 4096 % 16 + 1) ++ hexSet.extract (n / 256 % 16) (n / 256 % 16 + 1) ++ hexSet.extract (n / 16 % 16) (n / 16 % 16 + 1) ++ hexSet.extract (n % 16) (n % 16 + 1) = ⟨(esc4 false false false false n).toArray⟩ := by
  rw [hexSet_at (Nat.mod_lt _ (by decide)), hexSet_at (Nat.mod_lt _ (by decide)), hexSet_at (Nat.mod_lt _ (by decide)), hexSet_at (Nat.mod_lt _ (by decide))]
  rfl
set_option maxRecDepth 100000 in
set_option maxHeartbeats 4000000 in
theorem escape_one (n : Nat) (w : World) (hn : n < 65536) :
    Calls Tryd.prog 10 #[.int .i64 (n : Int)] w fun e w' => e = .returned (.string ⟨(esc4 false false false false n).toArray⟩) ∧ ∃ k, w' = w.drewN k := by
  have a12 := and15 (x := (n : Int) / 4096) (by omega) (by omega)
  have a8 := and15 (x := (n : Int) / 256) (by omega) (by omega)
  have a4 := and15 (x := (n : Int) / 16) (by omega) (by omega)
  have a0 := and15 (x := (n : Int)) (by omega) (by omega)
  go_enter Tryd.func10, Tryd.ntmps10
  go_upto_region 1 with fail
  go_quiet (fail)
  go_wp2_with fail
  go_ret
  exact ⟨congrArg Ending.returned (congrArg Value.string (esc_text n hn)), nq, rfl⟩
theorem escape_any (z : Int) (n : Nat) (w : World) (hz : z = n) (hn : n < 65536) :
    Calls Tryd.prog 10 #[.int .i64 z] w fun e w' => e = .returned (.string ⟨(esc4 false false false false n).toArray⟩) ∧ ∃ k, w' = w.drewN k := by
  subst hz
  exact escape_one n w hn
/-- the same, the text a letter -/
theorem escape_as (y : Nat) (hy : y < 65536) : ∃ E : List UInt8, E = esc4 false false false false y ∧ E.length ≤ 6 ∧ (⟨E.toArray⟩ : ByteArray).size = E.length ∧ Hid (∀ w, Calls Tryd.prog 10 #[.int .i64 (y : Int)] w fun e w' => e = .returned (.string ⟨E.toArray⟩) ∧ ∃ k, w' = w.drewN k) :=
  ⟨_, rfl, Nat.le_refl _, size_mk _, hid fun w => escape_any (y : Int) y w rfl hy⟩
/-- The slice value v reads as the characters l. -/
def RView (w : World) (v : Value) (l : List Int) : Prop :=
  ∃ ao cap, v = .slice ao l.length cap ∧ ∀ j (hj : j < l.length), ∃ b o, ao = some ⟨b, o, none⟩ ∧ b < w.heap.size ∧ w.cell? ⟨b, o + j, none⟩ = some (.int .i32 l[j]) ∧ (-2147483648 ≤ l[j] ∧ l[j] < 2147483648)
theorem RView.below {w w' : World} {v : Value} {l : List Int} (h : RView w v l) (hb : Below w.heap.size w w') : RView w' v l := by
  obtain ⟨ao, cap, rfl, h1⟩ := h
  refine ⟨ao, cap, rfl, fun j hj => ?_⟩
  obtain ⟨b, o, e1, e2, e3, e4⟩ := h1 j hj
  exact ⟨b, o, e1, by have := hb.size; omega, (hb.cell (p := ⟨b, o + j, none⟩) e2).trans e3, e4⟩
section
variable {P : Program} {ops : Array Oper} {rest : List Oper} {o : Oper} {a : Act} {Q : Exit → Act → World → Prop}
theorem wpList_index_runes (w : World) (hw : Region.wanted o (yielded ops a.tmps) = true) (x i : Operand) (t e : TypeId) (ho : o.op = .indexAddr t x i)
    (ht : P.underlying t = some (.slice e)) (hinfo : (P.info? e).map (fun i => (i.zero, i.size, i.bytes)) = some (some (.int .i32 0), 1, 4))
    (v : Value) (l : List Int) (hx : a.eval x = v) (hv : RView w v l) (k : IntKind) (n : Nat) (hi : a.eval i = .int k n) (h1 : n < l.length)
    (h : ∀ ad : Addr, w.cell? ad = some (.int .i32 l[n]) → wpList P ops Q rest (a.put o.dst (.pointer (some ad))) w) : wpList P ops Q (o :: rest) a w := by
  obtain ⟨ao, cap, rfl, h2⟩ := hv
  obtain ⟨inf, hi1, hz, hz1, hz2⟩ := info_parts hinfo
  obtain ⟨b, off, rfl, _, h5, _⟩ := h2 n h1
  refine wpList_wanted hw fun K hK => ?_
  unfold Oper.wp
  simp [execOp, ho, hx, hi, Instr.indexAt, asIntOf, run_underlying ht, h1, sizeOf, typeInfo, hi1, hz1, Addr.add_lit]
  exact hK _ _ (h _ h5)
end
set_option maxRecDepth 100000 in
theorem open_runes {H : Type} {enc : TypeId × Value → H} {W : World} {b0 : Nat} {v : Value} {d : DataW H} {ps : List MemPlace} (hval : Value.okWide Tryd.prog W .any b0 22 v) (hd : DataW.Trod enc Tryd.prog W 0 (fun _ => true) true 22 v d ps) : ∃ l, RView W v l := by
  obtain ⟨a0, len, cap, rfl⟩ := okWide_slice Tryd.underlying22 hval
  obtain ⟨fuel, hf⟩ := hd
  rcases open_ints Tryd.underlying22 Tryd.underlying21 (by kernel_rfl) hf with ⟨hcs, _⟩ | ⟨a, len', cap', zs, hcs, _, hl, hm, hz, _, hc, hwf⟩
  · simp [Value.cells] at hcs
    obtain ⟨rfl, rfl, rfl⟩ := hcs
    exact ⟨[], none, 0, rfl, fun j hj => absurd hj (Nat.not_lt_zero j)⟩
  · simp [Value.cells] at hcs
    obtain ⟨rfl, rfl, rfl⟩ := hcs
    simp only [if_true] at hz
    refine ⟨zs.take len, some a, cap, by simp; omega, fun j hj => ?_⟩
    have hj2 : j < len ∧ j < zs.length := by simp at hj; omega
    obtain ⟨b, o, s⟩ := a
    have h1 := hc j hj2.2
    have hs : s = none := by simpa [Addr.add] using World.cell?_spot (hc 0 (by omega))
    subst hs
    rw [Addr.add_lit] at h1
    have hm := hwf zs[j] (List.getElem_mem hj2.2)
    simp [Lit.wf, IntKind.min, IntKind.max, IntKind.signed, IntKind.bits] at hm
    refine ⟨b, o, rfl, World.block_lt_of_cell? W _ h1, ?_, ?_⟩
    · rw [h1, List.getD_eq_getElem?_getD, List.getElem?_eq_getElem hj2.2]; simp
    · simp only [List.getElem_take]; omega
/-- the characters of the first so many, as numbers -/
def natsOf (l : List Int) : List Nat := l.map Int.toNat
theorem nats_snoc (l : List Int) (j : Nat) (h : j < l.length) : natsOf (l.take (j + 1)) = natsOf (l.take j) ++ [l[j].toNat] := by
  unfold natsOf
  rw [List.take_succ_eq_append_getElem h, List.map_append]; rfl
theorem esc_snoc (l : List Nat) (c : Nat) : escAll (l ++ [c]) = escAll l ++ escOne c := by simp [escAll]
theorem want_snoc (l : List Nat) (c : Nat) : wantAll (l ++ [c]) = wantAll l ++ encU c := by simp [wantAll]
theorem bytes_app (a b : List UInt8) : (⟨a.toArray⟩ : ByteArray) ++ ⟨b.toArray⟩ = ⟨(a ++ b).toArray⟩ := by
  apply ByteArray.ext
  simp [ByteArray.data_append]
def EInv (L : List Int) (w : World) (s want i : Value) (wr : World) : Prop :=
  ∃ j : Nat, j ≤ L.length ∧ i = .int .i64 j ∧ s = .string ⟨(escAll (natsOf (L.take j))).toArray⟩ ∧ want = .string ⟨(wantAll (natsOf (L.take j))).toArray⟩ ∧ (∀ c ∈ natsOf (L.take j), okC c) ∧ Below w.heap.size w wr
set_option maxRecDepth 100000 in
set_option maxHeartbeats 4000000 in
theorem fnJsonEscapes_any (v : Value) (L : List Int) (w : World) (hv : RView w v L) (hgl : Glob w) (h5 : 5 ≤ w.heap.size) :
    Calls Tryd.prog 3 #[v] w fun e w' => e = .returned (.bool true) ∧ Below w.heap.size w w' := by
  have hb0 : Below w.heap.size w w := Below.refl _ _
  have HV := hid hv
  have HG := hid hgl
  obtain ⟨aoL, cL, rfl⟩ : ∃ ao c, v = .slice ao L.length c := by obtain ⟨ao, c, e, _⟩ := hv; exact ⟨ao, c, e⟩
  clear hv hgl
  by_cases h1 : L.length ≤ 1000
  · go_enter Tryd.func3, Tryd.ntmps3
    go_wp2_with fail
    go_loopw [3, 4, 17] (fun s want i wr => EInv L w s want i wr) (fun _ _ i _ => L.length - (intOf i).toNat)
    case atStart => exact ⟨0, Nat.zero_le _, rfl, rfl, rfl, fun c hc => by simp [natsOf] at hc, hb0⟩
    case round =>
      obtain ⟨j, hj, rfl, rfl, rfl, hok, hbr⟩ := hrel
      have hlen := escAll_len (natsOf (L.take j))
      have hnl : (natsOf (L.take j)).length ≤ 1000 := by unfold natsOf; simp; omega
      have HOK := hid hok
      have HBR := hid hbr
      have HVR := hid (HV.out.below hbr)
      clear hok hbr
      by_cases hlt : j < L.length
      · have HN := hid (nats_snoc L j hlt)
        have hbd : -2147483648 ≤ L[j] ∧ L[j] < 2147483648 := by
          obtain ⟨_, _, _, HJ⟩ := HVR.out
          obtain ⟨_, _, _, _, _, h⟩ := HJ j hlt
          exact h
        obtain ⟨c, hc⟩ : ∃ c, c = L[j] := ⟨_, rfl⟩
        have HC := hid hc
        rw [← hc] at hbd
        clear hc
        by_cases hc0 : c < 0
        · go_wp2_with (first
            | (refine wpList_index_runes _ (by rfl) _ _ 22 21 (by rfl) Tryd.underlying22 (by kernel_rfl) _ _ (by rfl) HVR.out _ j (by rfl) hlt ?_; intro ad1 hc1; rw [← HC.out] at hc1)
            | fail)
          go_ret
          exact ⟨rfl, HBR.out⟩
        · by_cases hc1' : 1114111 < c
          · go_wp2_with (first
              | (refine wpList_index_runes _ (by rfl) _ _ 22 21 (by rfl) Tryd.underlying22 (by kernel_rfl) _ _ (by rfl) HVR.out _ j (by rfl) hlt ?_; intro ad1 hc1; rw [← HC.out] at hc1)
              | fail)
            go_ret
            exact ⟨rfl, HBR.out⟩
          · by_cases hc2 : 55296 ≤ c ∧ c < 57344
            · obtain ⟨hc2a, hc2b⟩ := hc2
              go_wp2_with (first
                | (refine wpList_index_runes _ (by rfl) _ _ 22 21 (by rfl) Tryd.underlying22 (by kernel_rfl) _ _ (by rfl) HVR.out _ j (by rfl) hlt ?_; intro ad1 hc1; rw [← HC.out] at hc1)
                | fail)
              go_ret
              exact ⟨rfl, HBR.out⟩
            · obtain ⟨m, rfl⟩ : ∃ m : Nat, c = m := ⟨c.toNat, by omega⟩
              have hokm : m < 55296 ∨ 57344 ≤ m ∧ m ≤ 1114111 := by omega
              have henc := enc_str hokm
              have hul := encU_le m
              have HNX : Hid (natsOf (L.take (j + 1)) = natsOf (L.take j) ++ [m]) := hid (by rw [HN.out, ← HC.out]; rfl)
              have HOKN : Hid (∀ d ∈ natsOf (L.take (j + 1)), okC d) := hid (fun d hd => by
                rw [HNX.out, List.mem_append] at hd
                rcases hd with hd | hd
                · exact HOK.out d hd
                · simp only [List.mem_singleton] at hd; subst hd; exact hokm)
              generalize natsOf (L.take j) = N at *
              obtain ⟨N', hN'⟩ : ∃ N', N' = natsOf (L.take (j + 1)) := ⟨_, rfl⟩
              rw [← hN'] at HNX HOKN
              have HNN := hid hN'
              clear hN' HN
              have hse : (⟨(encU m).toArray⟩ : ByteArray).size = (encU m).length := size_mk _
              by_cases hm6 : m < 65536
              · have HEO : Hid (escOne m = esc4 false false false false m) := hid (by unfold escOne; rw [if_pos hm6])
                have d3 : decide (1114111 < (m : Int)) = false := by simp; omega
                have d4 : decide ((m : Int) < 65536) = true := by simp; omega
                have d0 : decide ((m : Int) < 0) = false := by simp
                obtain ⟨E1, hE1, hl1, hz1, C1⟩ := escape_as m hm6
                rw [← hE1] at HEO
                clear hE1
                have W0 := hid (show wrap64 (m : Int) = (m : Int) from IntWalk.wrap64_in _ (by omega))
                have hd12 : (decide ((55296 : Int) ≤ m) = false) ∨ (decide ((55296 : Int) ≤ m) = true ∧ decide ((m : Int) < 57344) = false) := by
                  rcases Nat.lt_or_ge m 55296 with h | h
                  · left; simp; omega
                  · right; simp; omega
                clear hokm hc2 hc0 hc1' hbd hm6
                rcases hd12 with d1 | ⟨d1, d2⟩
                all_goals
                  go_wp2_with (first
                    | (refine wpList_index_runes _ (by rfl) _ _ 22 21 (by rfl) Tryd.underlying22 (by kernel_rfl) _ _ (by rfl) HVR.out _ j (by rfl) hlt ?_; intro ad1 hc1; rw [← HC.out] at hc1)
                    | (go_at_call 10; rw [W0.out]; ((with_reducible refine (Calls.mono (C1.out _) ?_)); rintro e w2 ⟨rfl, k2, rfl⟩))
                    | fail)
                  go_roundw
                  case rel => exact ⟨j + 1, by omega, by go_num, by rw [← HNN.out, HNX.out, esc_snoc, HEO.out, bytes_app], by rw [← HNN.out, HNX.out, want_snoc, bytes_app], by rw [← HNN.out]; exact HOKN.out, HBR.out.trans ⟨rfl, rfl, rfl, Nat.le_refl _, fun _ _ => rfl⟩⟩
                  case measure => simp [intOf]; omega
              · have HEO : Hid (escOne m = esc4 false false false false (55296 + (m - 65536) / 1024) ++ esc4 false false false false (56320 + (m - 65536) % 1024)) := hid (by unfold escOne; rw [if_neg hm6])
                have hand := and1023 (x := (m : Int) - 65536) (by omega) (by omega)
                have d3 : decide (1114111 < (m : Int)) = false := by simp; omega
                have d4 : decide ((m : Int) < 65536) = false := by simp; omega
                have d0 : decide ((m : Int) < 0) = false := by simp
                have d1 : decide ((55296 : Int) ≤ m) = true := by simp; omega
                have d2 : decide ((m : Int) < 57344) = false := by simp; omega
                obtain ⟨y1, hy1⟩ : ∃ y, y = 55296 + (m - 65536) / 1024 := ⟨_, rfl⟩
                obtain ⟨y2, hy2⟩ : ∃ y, y = 56320 + (m - 65536) % 1024 := ⟨_, rfl⟩
                rw [← hy1, ← hy2] at HEO
                obtain ⟨E1, hE1, hl1, hz1, C1⟩ := escape_as y1 (by omega)
                obtain ⟨E2, hE2, hl2, hz2, C2⟩ := escape_as y2 (by omega)
                rw [← hE1, ← hE2] at HEO
                clear hE1 hE2
                have hba := bytes_app E1 E2
                have hz3 : (⟨(E1 ++ E2).toArray⟩ : ByteArray).size = (E1 ++ E2).length := size_mk _
                have hl3 : (E1 ++ E2).length ≤ 12 := by simp; omega
                have hw1 : IntKind.i32.wrap ((m : Int) - 65536) = (m : Int) - 65536 := IntWalk.i32_in _ (by omega)
                have A1 := hid (show wrap64 (55296 + wrap64 ((m : Int) - 65536) / 1024) = (y1 : Int) by rw [IntWalk.wrap64_in ((m : Int) - 65536) (by omega), IntWalk.wrap64_in _ (by omega)]; omega)
                have A2 := hid (show wrap64 (56320 + bits .and .i64 (wrap64 (wrap32 ((m : Int) - 65536))) 1023) = (y2 : Int) by rw [show wrap32 ((m : Int) - 65536) = (m : Int) - 65536 from by unfold wrap32; omega, IntWalk.wrap64_in ((m : Int) - 65536) (by omega), hand, IntWalk.wrap64_in _ (by omega)]; omega)
                clear hy1 hy2 hand
                clear hokm hc2 hc0 hc1' hbd hm6
                go_wp2_with (first
                  | (refine wpList_index_runes _ (by rfl) _ _ 22 21 (by rfl) Tryd.underlying22 (by kernel_rfl) _ _ (by rfl) HVR.out _ j (by rfl) hlt ?_; intro ad1 hc1; rw [← HC.out] at hc1)
                  | (go_at_call 10; rw [A1.out]; clear hw1; ((with_reducible refine (Calls.mono (C1.out _) ?_)); rintro e w2 ⟨rfl, k2, rfl⟩))
                  | (go_at_call 10; rw [A2.out]; ((with_reducible refine (Calls.mono (C2.out _) ?_)); rintro e w3 ⟨rfl, k3, rfl⟩))
                  | fail)
                go_roundw
                case rel => exact ⟨j + 1, by omega, by go_num, by rw [← HNN.out, HNX.out, esc_snoc, HEO.out, bytes_app], by rw [← HNN.out, HNX.out, want_snoc, bytes_app], by rw [← HNN.out]; exact HOKN.out, HBR.out.trans ⟨rfl, rfl, rfl, Nat.le_refl _, fun _ _ => rfl⟩⟩
                case measure => simp [intOf]; omega
      · have hread := escapes_read (natsOf (L.take j)) HOK.out
        generalize natsOf (L.take j) = N at *
        have hS : (⟨#[34]⟩ : ByteArray) ++ ⟨(escAll N).toArray⟩ ++ ⟨#[34]⟩ = ⟨(34 :: (escAll N ++ [34])).toArray⟩ := by
          have e1 : (⟨#[34]⟩ : ByteArray) = ⟨([34] : List UInt8).toArray⟩ := rfl
          rw [e1, bytes_app, bytes_app]; rfl
        have HT : Hid (∀ w' gb vb, Below w.heap.size w w' → View w' gb vb (34 :: (escAll N ++ [34])) → Calls Tryd.prog 11 #[vb] w' (JTold w'.heap.size [⟨16, 0, 34 :: (escAll N ++ [34]), false, wantAll N⟩] true w')) :=
          hid fun w' gb vb hb hvb => (jsonTokens_any vb _ gb w' hvb (by simp; omega) (HG.out.below hb) (by have := hb.size; omega)).mono fun e w2 h => h.told hread
        generalize hT : (34 :: (escAll N ++ [34]) : List UInt8) = T at *
        have hTl : T.length ≤ 20000 := by rw [← hT]; simp; omega
        clear hread hT
        go_wp2_with (first
          | ((with_reducible refine is_conv ?_); refine wpList_conv_bytes _ (by rfl) _ 9 28 5 (by rfl) Tryd.underlying9 Tryd.underlying28 Tryd.underlying5 T (by rfl) (by omega) ?_; intro v5 w5 hv5 hb5; have HV5 := hid hv5; have HB5 := hid (below_comp HBR.out hb5); obtain ⟨ao5, n5, c5, rfl⟩ := hv5.slice3; clear hv5 hb5)
          | (go_at_call 11; refine (Calls.mono (HT.out _ _ _ HB5.out HV5.out) ?_); rintro e w6 ⟨ao6, c6, rfl, ho6, hb6⟩; obtain ⟨ao7, c7, e7, h7⟩ := ho6.cells; injection e7 with e7 _ e7'; subst e7 e7'; obtain ⟨g7, rfl, hg7, k7⟩ := h7 0 (by simp); obtain ⟨a0, _, _, _, a4⟩ := tok_cells (Below.refl _ _) hg7 k7; simp only [Nat.zero_mul, Nat.zero_add, List.getElem_cons_zero] at a0 a4; have HB6 := hid (below_comp HB5.out hb6); clear ho6 hb6 h7 k7; simp only [List.length_cons, List.length_nil])
          | fail)
        go_ret
        exact ⟨by first | rfl | simp, HB6.out⟩
  · by_cases h3 : L.length ≤ 2147483647
    all_goals
      go_enter Tryd.func3, Tryd.ntmps3
      go_wp2_with fail
      go_ret
      exact ⟨rfl, hb0⟩
end Go.Proofs.YtjkmmhnhhiopiaaDoor
