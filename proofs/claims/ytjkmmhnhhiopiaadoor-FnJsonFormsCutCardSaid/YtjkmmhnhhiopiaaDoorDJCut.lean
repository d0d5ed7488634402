/-
  The law FnJsonFormsCut: an object or a list that is written in any of the ways, without its end, is refused. The listed variables hold the tables of UTF-8 and the named errors.
-/
import Derived.Test.YtjkmmhnhhiopiaaDoorDJTold
import Derived.Test.YtjkmmhnhhiopiaaDoorDOpen
namespace Go.Proofs.YtjkmmhnhhiopiaaDoor
open Go.ChangeShapes Go.WideShapes Go.ChangeAt Go.RowKit

/-- the first and the last token of an object or a list -/
theorem cut_ends (ps : List UInt8) (k : Nat) (nm st : List UInt8) (kids : List JI) (hk : 5 ≤ k % 7) (hw : weightN 20 (.mk k nm st kids) ≤ 200) :
    ∃ t0 mid tz, (writeJ ps (.mk k nm st kids)).l = t0 :: (mid ++ [tz]) ∧ (t0.kind = 64 ∨ t0.kind = 256) ∧ t0.pos + 1 ≤ tz.pos ∧ tz.pos ≤ (writeJ ps (.mk k nm st kids)).b.length := by
  have hall := (write_le ps _ hw).2.2.2
  have hkd := fun y hy => weightN_kid (y := y) hw hy
  simp only [JI.kids] at hkd
  have key : ∀ (a z : Nat) (ca cz : UInt8) (f : JI → JS → JS), valueJ ps 20 (.mk k nm st kids) ⟨[], 0, []⟩ = tokenJ ps z [] false [cz] (partsJ ps f 0 kids (tokenJ ps a [] false [ca] ⟨[], 0, []⟩)) → (∃ n m, Grew n m (tokenJ ps a [] false [ca] ⟨[], 0, []⟩) (partsJ ps f 0 kids (tokenJ ps a [] false [ca] ⟨[], 0, []⟩))) → (a = 64 ∨ a = 256) →
      ∃ t0 mid tz, (writeJ ps (.mk k nm st kids)).l = t0 :: (mid ++ [tz]) ∧ (t0.kind = 64 ∨ t0.kind = 256) ∧ t0.pos + 1 ≤ tz.pos ∧ tz.pos ≤ (writeJ ps (.mk k nm st kids)).b.length := by
    intro a z ca cz f hv ⟨n, m, ⟨x, hx, _⟩, _, y, hy, _⟩ ha
    have hl : (writeJ ps (.mk k nm st kids)).l = (valueJ ps 20 (.mk k nm st kids) ⟨[], 0, []⟩).l := rfl
    have e : (writeJ ps (.mk k nm st kids)).l = ⟨a, (spaceJ ps ⟨[], 0, []⟩).b.length, [ca], [], false⟩ :: (y ++ [⟨z, (spaceJ ps (partsJ ps f 0 kids (tokenJ ps a [] false [ca] ⟨[], 0, []⟩))).b.length, [cz], [], false⟩]) := by
      rw [hl, hv]
      show (partsJ ps f 0 kids (tokenJ ps a [] false [ca] ⟨[], 0, []⟩)).l ++ _ = _
      rw [hy]
      rfl
    refine ⟨_, _, _, e, ha, ?_, hall _ (by rw [e]; simp)⟩
    show (spaceJ ps ⟨[], 0, []⟩).b.length + 1 ≤ ((partsJ ps f 0 kids (tokenJ ps a [] false [ca] ⟨[], 0, []⟩)).b ++ _).length
    rw [hx]
    show _ ≤ ((((spaceJ ps ⟨[], 0, []⟩).b ++ [ca]) ++ x) ++ _).length
    simp only [List.length_append, List.length_cons, List.length_nil]
    omega
  have h56 : k % 7 = 5 ∨ k % 7 = 6 := by omega
  rcases h56 with h5 | h6
  · have a := grew_parts ps (valueJ ps 19) (weightN 19) 0 kids (tokenJ ps 256 [] false [91] ⟨[], 0, []⟩) fun x hx s =>
        ⟨(weightN_pos (hkd x hx).1).2, (grew_value ps 19 x s (hkd x hx).1).mono (by omega) (by omega)⟩
    refine key 256 512 91 93 (valueJ ps 19) ?_ ⟨_, _, a⟩ (.inr rfl)
    conv => lhs; unfold valueJ
    rw [if_neg (by omega), if_neg (by omega), if_neg (by omega), if_neg (by omega), if_neg (by omega), if_pos h5]
  · have a := grew_parts ps (fieldJ ps (valueJ ps 19)) (weightN 19) 0 kids (tokenJ ps 64 [] false [123] ⟨[], 0, []⟩) fun x hx s =>
        ⟨(weightN_pos (hkd x hx).1).2, ((grew_name ps x.name s (hkd x hx).2.1).trans (grew_value ps 19 x _ (hkd x hx).1)).mono (by have := (weightN_pos (hkd x hx).1).2; omega) (by have := (weightN_pos (hkd x hx).1).2; omega)⟩
    refine key 64 128 123 125 (fieldJ ps (valueJ ps 19)) ?_ ⟨_, _, a⟩ (.inl rfl)
    conv => lhs; unfold valueJ
    rw [if_neg (by omega), if_neg (by omega), if_neg (by omega), if_neg (by omega), if_neg (by omega), if_neg (by omega)]
theorem cut_refused (ps : List UInt8) (x : JI) (hw : weightN 20 x ≤ 200) (t0 : JT) (mid : List JT) (tz : JT) (hl : (writeJ ps x).l = t0 :: (mid ++ [tz])) (hk : t0.kind = 64 ∨ t0.kind = 256) (hz : tz.pos ≤ (writeJ ps x).b.length) (m : Nat) (h1 : t0.pos < m) (h2 : m ≤ tz.pos) :
    (allJ ((writeJ ps x).b.take m) []).2 = false := by
  generalize hq : pickV ps (valueJ ps 20 x ⟨[], 0, []⟩).k 8 = q
  have hb : (writeJ ps x).b = (valueJ ps 20 x ⟨[], 0, []⟩).b ++ spaceT q := by rw [← hq]; rfl
  obtain ⟨a, Y, last, hc, hY, hA, hE⟩ := reads_value (ps := ps) (bs := (writeJ ps x).b) 20 x ⟨[], 0, []⟩ [] 0 (spaceT q) hw rfl (delim_spaces q) hb DS.new at_new
  have e : (writeJ ps x).l = Y := by show (valueJ ps 20 x ⟨[], 0, []⟩).l = Y; rw [hY]; rfl
  rw [← e, hl] at hc
  refine cut_all (t0 := toTK t0) (l := (mid ++ [tz]).map toTK) hc hA.st hk (by omega) h1 ?_
  intro y hy
  simp at hy
  subst hy
  exact h2
set_option maxRecDepth 100000 in
set_option maxHeartbeats 4000000 in
theorem fnJsonFormsCut_any (n : Nat) (x : JI) (cs : List Value) (w : World) (ps : List UInt8) (vp : Value) (g : Nat) (a : Int) (hx : ItemN w n cs x) (hv : View w g vp ps) (hgl : Glob w) (h5 : 5 ≤ w.heap.size) :
    Calls Tryd.prog 4 #[.agg cs.toArray, vp, .int .i64 a] w fun e w' => e = .returned (.bool true) ∧ Below w.heap.size w w' := by
  rcases n with _ | n
  · exact hx.elim
  have hx0 := hid hx
  obtain ⟨k, nm, st, kids⟩ := x
  obtain ⟨hk256, _, _, ao, cap, rfl, _⟩ := hx
  obtain ⟨aoP, capP, rfl⟩ := hv.slice
  have HX := hx0
  clear hx0
  have HG := hid hgl
  clear hgl
  have hb1 : Below w.heap.size w (w.alloc (.cells #[.int .u8 k, .string ⟨nm.toArray⟩, .string ⟨st.toArray⟩, .slice ao kids.length cap] 34)) := (Below.refl _ _).alloc (Nat.le_refl _) _
  have HF : Hid (∀ w', Calls Tryd.prog 12 #[.agg #[.int .u8 k, .string ⟨nm.toArray⟩, .string ⟨st.toArray⟩, .slice ao kids.length cap]] w' fun e w2 => e = .returned (.bool (fitsJ nm st kids.length)) ∧ Below w'.heap.size w' w2) := hid fun w' => fitsJ_any k nm st ao kids.length cap w'
  have HW : Hid (∀ w', Below w.heap.size w w' → Calls Tryd.prog 13 #[.agg #[.int .u8 k, .string ⟨nm.toArray⟩, .string ⟨st.toArray⟩, .slice ao kids.length cap], .int .i64 (20 : Nat)] w' fun e w2 => e = .returned (.int .i64 (weightN 20 (.mk k nm st kids))) ∧ Below w'.heap.size w' w2) :=
    hid fun w' hb => weight_any 20 (by decide) (n + 1) _ _ w' (ItemN.below hb _ HX.out)
  have hwle := weightN_le 20 (.mk k nm st kids)
  rcases hf : fitsJ nm st kids.length with _ | _
  · rw [hf] at HF
    clear hv hf
    go_enter Tryd.func4, Tryd.ntmps4
    go_wp2_with (first
      | (go_at_call 12; refine (Calls.mono (HF.out _) ?_); rintro e w1 ⟨rfl, hb2⟩; obtain ⟨hc, _⟩ := bcell hb2; have hsz2 : w.heap.size < w1.heap.size := (by have := hb2.size; simp at this; omega); have HB2 := hid (below_comp hb1 hb2); clear hb2)
      | fail)
    go_ret
    exact ⟨rfl, HB2.out⟩
  · rw [hf] at HF
    by_cases hp : ps.length ≤ 2147483647
    · by_cases hk7 : 5 ≤ k % 7
      · have hk7' : ¬ (k : Int) % 7 < 5 := by omega
        by_cases hwt : weightN 20 (.mk k nm st kids) ≤ 200
        · have hwt' : ¬ (200 : Int) < weightN 20 (.mk k nm st kids) := by omega
          by_cases ha : 0 ≤ a
          · obtain ⟨c, rfl⟩ : ∃ c : Nat, a = c := ⟨a.toNat, by omega⟩
            obtain ⟨q1, q2, q3, q4⟩ := write_le ps (.mk k nm st kids) hwt
            have hread := write_reads (ps := ps) (.mk k nm st kids) hwt
            obtain ⟨t0, mid, tz, hL, hkk, hpos, hpz⟩ := cut_ends ps k nm st kids hk7 hwt
            have href := cut_refused ps (.mk k nm st kids) hwt t0 mid tz hL hkk hpz
            have HJW : Hid (∀ w', Below w.heap.size w w' → Calls Tryd.prog 14 #[.agg #[.int .u8 k, .string ⟨nm.toArray⟩, .string ⟨st.toArray⟩, .slice ao kids.length cap], .slice aoP ps.length capP] w' (Written ps (.mk k nm st kids) w')) :=
              hid fun w' hb => jsonWrite_any (n + 1) _ _ w' ps _ g (ItemN.below hb _ HX.out) (hv.below hb) hp hwt
            unfold Written at HJW
            clear hv hf hwt
            generalize writeJ ps (.mk k nm st kids) = S at *
            generalize weightN 20 (.mk k nm st kids) = W at *
            obtain ⟨b, kk, l⟩ := S
            simp only at q1 q2 q3 q4 HJW hread hL hpz href
            have h2l : 2 ≤ l.length := by rw [hL]; simp
            have HL := hid hL
            have HMOD := hid (show ((c : Int) % ((tz.pos : Int) - ((t0.pos : Int) + 1) + 1) = ((c % (tz.pos - t0.pos) : Nat) : Int)) by
              have e : (tz.pos : Int) - ((t0.pos : Int) + 1) + 1 = ((tz.pos - t0.pos : Nat) : Int) := by omega
              rw [e]; rfl)
            have hr := Nat.mod_lt c (show 0 < tz.pos - t0.pos by omega)
            have HT : Hid (∀ w' gb vb, Below w.heap.size w w' → View w' gb vb b → Calls Tryd.prog 11 #[vb] w' fun e w2 => (∃ v5, e = .returned (.tuple #[v5, .bool true])) ∧ Below w'.heap.size w' w2) :=
              hid fun w' gb vb hb hvb => (jsonTokens_any vb b gb w' hvb (by omega) (HG.out.below hb) (by have := hb.size; omega)).mono fun e w2 ⟨v5, h1, _, h3⟩ => ⟨⟨v5, by rw [h1, hread]⟩, h3⟩
            obtain ⟨r, hrr⟩ : ∃ r, r = c % (tz.pos - t0.pos) := ⟨_, rfl⟩
            rw [← hrr] at HMOD hr
            have hmb : t0.pos + 1 + r ≤ b.length := by omega
            have hreft := href (t0.pos + 1 + r) (by omega) (by omega)
            have htl : (b.take (t0.pos + 1 + r)).length ≤ 10000000 := by simp; omega
            have HT1 : Hid (∀ w' gb vb, Below w.heap.size w w' → View w' gb vb (b.take (t0.pos + 1 + r)) → Calls Tryd.prog 11 #[vb] w' fun e w2 => (∃ v5, e = .returned (.tuple #[v5, .bool false])) ∧ Below w'.heap.size w' w2) :=
              hid fun w' gb vb hb hvb => (jsonTokens_any vb (b.take (t0.pos + 1 + r)) gb w' hvb htl (HG.out.below hb) (by have := hb.size; omega)).mono fun e w2 ⟨v5, h1, _, h3⟩ => ⟨⟨v5, by rw [h1, hreft]⟩, h3⟩
            clear hread hL href hreft hrr htl q2 q4 hkk
            go_enter Tryd.func4, Tryd.ntmps4
            go_upto_region 8 with (first
              | (go_at_call 12; refine (Calls.mono (HF.out _) ?_); rintro e w1 ⟨rfl, hb2⟩; obtain ⟨hc, _⟩ := bcell hb2; have hsz2 : w.heap.size < w1.heap.size := (by have := hb2.size; simp at this; omega); have HB2 := hid (below_comp hb1 hb2); clear hb2)
              | (go_at_call 13; refine (Calls.mono (HW.out _ HB2.out) ?_); rintro e w3 ⟨rfl, hb3⟩; obtain ⟨hc3, _⟩ := bcell hb3; have HB3 := hid (below_comp HB2.out hb3); clear hb3)
              | (go_at_call 14; refine (Calls.mono (HJW.out _ HB3.out) ?_); rintro e w4 ⟨vb, vl, rfl, ho, ht, hb4⟩; have HB4 := hid (below_comp HB3.out hb4); obtain ⟨aoB, cB, rfl⟩ := ho.slice; obtain ⟨gb, hvb, _⟩ := ho.view; obtain ⟨aoL, cL, rfl, hcl⟩ := ht.cells; have HVB := hid hvb; have HCL := hid hcl; clear ho ht hb4 hvb hcl)
              | fail)
            obtain ⟨gL, rfl, hgL, k0⟩ := HCL.out 0 (by omega)
            obtain ⟨gz, ez, _, kz⟩ := HCL.out (l.length - 1) (by omega)
            obtain rfl : gL = gz := by injection ez with ez; injection ez
            have p0 : w4.cell? ⟨gL, 1, none⟩ = some (.int .i64 (t0.pos : Int)) := by
              have := k0 1 (by omega)
              rw [show l[0]'(by omega) = t0 by simp [HL.out]] at this
              simpa [tokCells] using this
            have pz : w4.cell? ⟨gL, (l.length - 1) * 5 + 1, none⟩ = some (.int .i64 (tz.pos : Int)) := by
              have := kz 1 (by omega)
              rw [show l[l.length - 1]'(by omega) = tz by simp [HL.out]] at this
              simpa [tokCells] using this
            obtain ⟨z, hz⟩ : ∃ z, z = l.length - 1 := ⟨_, rfl⟩
            rw [← hz] at pz
            have hzl : z < l.length := by omega
            have hw1 : IntKind.i64.wrap ((l.length : Int) - 1) = (z : Int) := by rw [IntWalk.i64_in _ (by omega)]; omega
            have hw2 : IntKind.i64.wrap ((t0.pos : Int) + 1) = (t0.pos : Int) + 1 := IntWalk.i64_in _ (by omega)
            have HVB' := hid (fun nq => (HVB.out.below (w' := w4.drewN nq) ⟨rfl, rfl, rfl, Nat.le_refl _, fun _ _ => rfl⟩))
            have HB4' := hid (fun nq => (HB4.out.trans (⟨rfl, rfl, rfl, Nat.le_refl _, fun _ _ => rfl⟩ : Below w.heap.size w4 (w4.drewN nq))))
            clear k0 kz ez hz
            go_quiet (fail)
            clear hw1 hw2
            have hmod := HMOD.out
            have hvv := HVB'.out nq
            go_wp2_with (first
              | ((with_reducible refine is_upto ?_); refine wpList_slice_to _ rfl _ _ 28 5 rfl Tryd.underlying28 Tryd.info5 _ _ _ rfl (HVB'.out _) _ _ rfl (by omega) (by omega) ?_; intro vs1 hvs1)
              | (go_at_call 11; with_reducible refine Calls.mono (HT1.out _ _ _ (HB4'.out _) (hvs1.eq (show b.take _ = b.take (t0.pos + 1 + r) by congr 1; omega))) ?_; rintro e w5 ⟨⟨v5, rfl⟩, hb5⟩; have HB5 := hid (below_comp (HB4'.out _) hb5); have HV5 := hid ((HVB'.out _).below hb5); clear hvs1 hb5)
              | (go_at_call 11; with_reducible refine Calls.mono (HT.out _ _ _ HB5.out HV5.out) ?_; rintro e w6 ⟨⟨v6, rfl⟩, hb6⟩)
              | fail)
            go_ret
            exact ⟨by first | rfl | simp, below_comp HB5.out hb6⟩
          · clear hv hf
            have ha' : a < 0 := by omega
            generalize weightN 20 (.mk k nm st kids) = W at *
            go_enter Tryd.func4, Tryd.ntmps4
            go_wp2_with (first
              | (go_at_call 12; refine (Calls.mono (HF.out _) ?_); rintro e w1 ⟨rfl, hb2⟩; obtain ⟨hc, _⟩ := bcell hb2; have hsz2 : w.heap.size < w1.heap.size := (by have := hb2.size; simp at this; omega); have HB2 := hid (below_comp hb1 hb2); clear hb2)
              | (go_at_call 13; refine (Calls.mono (HW.out _ HB2.out) ?_); rintro e w3 ⟨rfl, hb3⟩; obtain ⟨hc3, _⟩ := bcell hb3; have HB3 := hid (below_comp HB2.out hb3); clear hb3)
              | fail)
            go_ret
            exact ⟨rfl, HB3.out⟩
        · have hwt' : (200 : Int) < weightN 20 (.mk k nm st kids) := by omega
          clear hv hf hwt
          generalize weightN 20 (.mk k nm st kids) = W at *
          go_enter Tryd.func4, Tryd.ntmps4
          go_wp2_with (first
            | (go_at_call 12; refine (Calls.mono (HF.out _) ?_); rintro e w1 ⟨rfl, hb2⟩; obtain ⟨hc, _⟩ := bcell hb2; have hsz2 : w.heap.size < w1.heap.size := (by have := hb2.size; simp at this; omega); have HB2 := hid (below_comp hb1 hb2); clear hb2)
            | (go_at_call 13; refine (Calls.mono (HW.out _ HB2.out) ?_); rintro e w3 ⟨rfl, hb3⟩; obtain ⟨hc3, _⟩ := bcell hb3; have HB3 := hid (below_comp HB2.out hb3); clear hb3)
            | fail)
          go_ret
          exact ⟨rfl, HB3.out⟩
      · have hk7' : (k : Int) % 7 < 5 := by omega
        clear hv hf hk7
        go_enter Tryd.func4, Tryd.ntmps4
        go_wp2_with (first
          | (go_at_call 12; refine (Calls.mono (HF.out _) ?_); rintro e w1 ⟨rfl, hb2⟩; obtain ⟨hc, _⟩ := bcell hb2; have hsz2 : w.heap.size < w1.heap.size := (by have := hb2.size; simp at this; omega); have HB2 := hid (below_comp hb1 hb2); clear hb2)
          | fail)
        go_ret
        exact ⟨rfl, HB2.out⟩
    · clear hv hf
      go_enter Tryd.func4, Tryd.ntmps4
      go_wp2_with (first
        | (go_at_call 12; refine (Calls.mono (HF.out _) ?_); rintro e w1 ⟨rfl, hb2⟩; obtain ⟨hc, _⟩ := bcell hb2; have hsz2 : w.heap.size < w1.heap.size := (by have := hb2.size; simp at this; omega); have HB2 := hid (below_comp hb1 hb2); clear hb2)
        | fail)
      go_ret
      exact ⟨rfl, HB2.out⟩

set_option maxRecDepth 100000 in
theorem fnJsonFormsCut_lifted (os : Os) (started : os.Started) (H : Type) (enc : TypeId × Value → H) :
    ReturnsInHanded {} Tryd.checked os 4 .any (fun w args => (Rows.fnJsonFormsCutSpec.pre enc Tryd.prog Tryd.f4 Rows.fnJsonFormsCutRow.domain false w args ∧ laidMetH Tryd.prog Rows.fnJsonFormsCutRow.laid w) ∧ sizedMet enc Tryd.prog Tryd.f4 (OpenSpec.ofChange Rows.fnJsonFormsCutSpec) false w args)
      (Rows.fnJsonFormsCutSpec.post enc Tryd.prog Tryd.f4 false true false false) := by
  refine returnsInHanded_of_change_and (C := Tryd.checked) (X := fun w _ => laidMetH Tryd.prog Rows.fnJsonFormsCutRow.laid w) (fun _ _ _ hh h => h.of_heap hh) Tryd.own started (by kernel_rfl) Tryd.func4
    (ChangeSpec.witness_shaped (enc := enc) (C := Tryd.checked) (os := os) (X := fun w _ => laidMetH Tryd.prog Rows.fnJsonFormsCutRow.laid w) false (World.laidAll Tryd.prog os Rows.fnJsonFormsCutRow.laid) #[.agg #[.int .u8 0, .string ⟨#[]⟩, .string ⟨#[]⟩, .slice none 0 0], .slice none 0 0, .int .i64 0] 8 (World.laidAll_os _ _ _)
      (World.shaped_of_ZipB (by kernel_rfl) (by kernel_rfl)) (by kernel_rfl) (by kernel_rfl) (by kernel_rfl)
      (by rw [MakeChecks.laidMetH_plain _ _ _ (by kernel_rfl)]; exact laidMet_laidAll _ (by kernel_rfl) (by kernel_rfl))) ?_
  intro W base args ds gs before hval0 hW hcnd _ hL _
  have hval : ∀ (j : Nat) t v, Tryd.f4.params[j]? = some t → args[j]? = some v → Value.okWide Tryd.prog W .any base t v := hval0
  have hW' := hW
  obtain ⟨p, q, hA0, hV, rfl, hfz, hnd⟩ := hW
  have hA : DataW.TrodAll enc Tryd.prog W 0 (fun _ => true) true Tryd.f4.params.toList args.toList ds p := hA0
  rw [Tryd.params4] at hA hval
  obtain ⟨v0, v1, v2, d0, d1, d2, p0, p1, p2, rfl, rfl, rfl, h0, h1, h2⟩ := trodAll_three hA
  obtain ⟨cs0, m0, x0, rfl, hx0⟩ := open_jitem (hval 0 34 v0 rfl rfl) h0
  obtain ⟨g1, b1, hv1⟩ := open_bytes Tryd.underlying28 Tryd.underlying5 (by kernel_rfl) (hval 1 28 v1 rfl rfl) h1
  obtain ⟨n2, rfl, rfl, rfl, wn2⟩ := open_int Tryd.underlying3 (hval 2 3 v2 rfl rfl) h2
  clear hA0 hval0
  refine (fnJsonFormsCut_any m0 x0 cs0 W b1 v1 g1 n2 hx0 hv1 (glob_here hL).1 (glob_here hL).2).mono fun e W' ⟨he, hw⟩ => ?_
  subst he
  exact ⟨_, rfl, law_post Tryd.laidOut hW' rfl rfl Tryd.underlying4 (by kernel_rfl) rfl hw⟩

theorem fnJsonFormsCut_holds : Rows.FnJsonFormsCutSaid :=
  OpenClaim.holds_of_wide 4 Tryd.f4 rfl rfl rfl rfl rfl rfl rfl ⟨rfl, rfl, rfl, rfl, rfl⟩ rfl rfl rfl rfl rfl (by kernel_rfl) Tryd.func4 (by kernel_rfl)
    (of_decide_eq_true (by kernel_rfl)) (by unfold Func.isWrapper; first | (rw [if_pos (by decide +kernel)]; kernel_rfl) | (rw [if_neg (by decide +kernel)]; exact ⟨rfl, rfl⟩))
    (fun os started H enc _ => fnJsonFormsCut_lifted os started H enc)
theorem fnJsonFormsCut_card : Rows.FnJsonFormsCutCardSaid :=
  Claim7.holds_tied_plain_at .later [] _ _ _ _ fnJsonFormsCut_holds (fun _ h => by cases h) (by kernel_rfl) (fun _ h => by cases h) fnJsonFormsCut_row_tie rfl ⟨rfl, rfl⟩ (by kernel_rfl) rfl
    (fun f fn hf hfn => by
      obtain rfl : f = 4 := Option.some.inj ((show Tryd.prog.funcNamed "pub-codicil/laws.FnJsonFormsCut" = some 4 by kernel_rfl).symm.trans hf) |>.symm
      obtain rfl : fn = Tryd.f4 := (Option.some.inj (Tryd.func4.symm.trans hfn)).symm
      exact ⟨by kernel_rfl, fun j t ht => by
        rw [Tryd.params4] at ht
        have hm : t ∈ [34, 28, 3] := by simpa using Array.mem_of_getElem? ht
        have hall : ([34, 28, 3].all fun u => !Tryd.prog.wantsStandIn u) = true := by kernel_rfl
        exact (show Tryd.prog.wantsStandIn t = false by simpa using List.all_eq_true.1 hall t hm)⟩)
    (by kernel_rfl)
#print axioms fnJsonFormsCut_card
end Go.Proofs.YtjkmmhnhhiopiaaDoor
