/-
  The reference's reader of the text form, walked: a quoted string.
-/
import Derived.Test.YtgdnpnipahegaaaDoorTEscape
import Derived.Test.YtgdnpnipahegaaaDoorDOut
import Derived.Deep.RegionHeld3
namespace Go.Proofs.YtgdnpnipahegaaaDoor
open Go.ChangeShapes Go.WideShapes Go.ChangeAt Go.RowKit

theorem ownsRow_slice {w : World} {B : Nat} {e : TypeId} {z : Nat} {v : Value} {n : Nat} {xs : List Value} (h : w.ownsRow B e z v n xs) : ∃ ao c, v = .slice ao n c := by
  rcases h.2 with ⟨rfl, h0⟩ | ⟨g, cap, cur, rfl, _⟩
  · exact ⟨none, 0, by rw [h0]⟩
  · exact ⟨_, _, rfl⟩
theorem OwnB.slice {w : World} {B : Nat} {e : TypeId} {v : Value} {bs : List UInt8} (h : OwnB w B e v bs) : ∃ ao c, v = .slice ao bs.length c := ownsRow_slice h
theorem OwnB.below {w w' : World} {B : Nat} {e : TypeId} {v : Value} {bs : List UInt8} (h : OwnB w B e v bs) (hb : Below w.heap.size w w') : OwnB w' B e v bs :=
  World.ownsRow.kept h (row := none) ⟨hb.os, hb.tape, hb.output, hb.size, fun k hk _ => hb.block k hk⟩ (by cases v.ownBlock <;> simp)
theorem OwnB.grw {w w' : World} {B p : Nat} {v : Value} {bs : List UInt8} (h : OwnB w B 5 v bs) (hg : Grw p w w') (hp : p < B) : OwnB w' B 5 v bs :=
  World.ownsRow.kept h (show w.grownBy w' (some p) from hg) (.inr fun e => by have := (World.ownsRow.lt h _ e).1; omega)
theorem Grw.add {p B : Nat} {a b c : World} (h : Grw p a b) (hb : Below B b c) (hB : a.heap.size ≤ B) : Grw p a c := show a.grownBy c (some p) from
  ⟨hb.os.trans (World.grownBy.os h), hb.tape.trans (World.grownBy.tape h), hb.output.trans (World.grownBy.output h), Nat.le_trans (World.grownBy.size h) hb.size,
    fun k hk hne => (hb.block k (Nat.lt_of_lt_of_le hk hB)).trans (World.grownBy.block h k hk hne)⟩
theorem TS.keptB {B p g : Nat} {vb : Value} {bs : List UInt8} {k B1 : Nat} {w c : World} (h : TS B p g vb bs k w) (hb : Below B1 w c) (hp : p < B1) (hg : g < B1) : TS B p g vb bs k c := h.kept hb.size (hb.block p hp) (hb.block g hg)
/-- how far the reader is from the end -/
def atM (n p : Nat) (w : World) : Nat := n - (match w.cell? ⟨p, 1, none⟩ with
  | some v => (intOf v).toNat
  | none => 0)
theorem atM_eq {B p g : Nat} {vb : Value} {bs : List UInt8} {k : Nat} {w : World} (h : TS B p g vb bs k w) : atM bs.length p w = bs.length - k := by
  unfold atM
  rw [h.c.2.1]
  simp [intOf]
theorem escRT_len {l x : List UInt8} {n ok : Nat} (h : escRT l = some (x, n, ok)) : x.length ≤ 4 := by
  cases l with
  | nil => cases h
  | cons c l =>
    have hp : ∀ d, pointR d l = some (x, n, ok) → x.length ≤ 4 := by
      intro d h
      unfold pointR at h
      split at h
      · cases h
      · split at h
        · cases h
        · split at h
          · cases h; simp
          · cases h; exact encU_le4 _
    rw [escRT_cons] at h
    split at h
    · cases h; simp
    · split at h
      · unfold octR at h
        split at h
        · cases h; simp
        · cases h; simp
      · split at h
        · unfold hexR2 at h
          split at h
          · cases h; simp
          · cases h; simp
        · split at h
          · exact hp 4 h
          · split at h
            · exact hp 8 h
            · split at h
              · cases h; simp
              · cases h
/-- what is read of a string: nothing (0), or its bytes, the reader behind it -/
def RStrRes (B p g : Nat) (vb : Value) (bs : List UInt8) (w : World) (r : List UInt8 × Nat × Nat) (e : Ending) (w' : World) : Prop :=
  (r.2.1 = 0 ∧ (∃ v, e = .returned (.tuple #[v, .int .i64 0])) ∧ Grw p w w') ∨ ∃ v, e = .returned (.tuple #[v, .int .i64 (r.2.1 : Int)]) ∧ OwnB w' w.heap.size 5 v r.1 ∧ TS B p g vb bs (bs.length - r.2.2) w' ∧ Grw p w w'
theorem RStrRes.no {B p g : Nat} {vb : Value} {bs : List UInt8} {w w' : World} {r : List UInt8 × Nat × Nat} (h : r = ([], 0, 0)) (v : Value) (hb : Grw p w w') : RStrRes B p g vb bs w r (.returned (.tuple #[v, .int .i64 0])) w' := by
  rw [h]; exact .inl ⟨rfl, ⟨v, rfl⟩, hb⟩
theorem RStrRes.yes {B p g : Nat} {vb : Value} {bs : List UInt8} {w w' : World} {r : List UInt8 × Nat × Nat} {out : List UInt8} {t j : Nat} (h : r = (out, t, bs.length - j)) (hj : j ≤ bs.length) (v : Value) (z : Int) (hz : z = (t : Int)) (ho : OwnB w' w.heap.size 5 v out) (ht : TS B p g vb bs j w') (hb : Grw p w w') :
    RStrRes B p g vb bs w r (.returned (.tuple #[v, .int .i64 z])) w' := by
  rw [h, hz]; exact .inr ⟨v, rfl, ho, by show TS B p g vb bs (bs.length - (bs.length - j)) w'; rw [show bs.length - (bs.length - j) = j by omega]; exact ht, hb⟩
section
variable {P : Program}
/-- v[lo:hi], as an equation -/
theorem view_both {w : World} {g : Nat} {v : Value} {bs : List UInt8} (hv : View w g v bs) (t e : TypeId) (ht : P.underlying t = some (.slice e)) (hinfo : (P.info? e).map (fun i => (i.zero, i.size, i.bytes)) = some (some (.int .u8 0), 1, 1))
    (k k' : IntKind) (l m : Int) (n j : Nat) (hl : l = (n : Int)) (hj : m = (j : Int)) (hn : n ≤ j) (hm : j ≤ bs.length) : ∃ v', (∀ W, (Instr.slice t v (some (.int k l)) (some (.int k' m)) none).run P W = .ok v' W) ∧ View w g v' ((bs.drop n).take (j - n)) := by
  subst hl hj
  obtain ⟨ao, cap, rfl, h3, h4, hn0, off, h5, h6⟩ := hv
  obtain ⟨inf, hi1, hz, hz1, hz2⟩ := info_parts hinfo
  have hlen : ((bs.drop n).take (j - n)).length = j - n := by simp; omega
  refine ⟨sliced ao n j cap 1, fun W => ?_, ?_⟩
  · have hs : P.underlying t = some (.slice (P.elem t)) := by simp [Program.elem, ht]
    have he : P.elem t = e := by simp [Program.elem, ht]
    have hsz : (sizeOf (P.elem t)).run P W = .ok 1 W := by simp [sizeOf, typeInfo, he, hi1, hz1]
    rw [run_slice_lh W t ao bs.length cap hs k k' (n : Int) (j : Int) (by omega) (by omega) (by omega), hsz]
    simp [Result.andThen]
  · refine ⟨_, _, by rw [hlen]; rfl, by omega, by omega, by intro he; cases ao with
      | none => have := hn0 rfl; omega
      | some ad => split at he <;> simp at he, off + n, ?_, ?_⟩
    · intro hne
      have : j - n ≠ 0 := by intro e; apply hne; exact List.eq_nil_of_length_eq_zero (by omega)
      have hbs : bs ≠ [] := by intro e; subst e; simp at hm; omega
      rw [if_neg (by omega), h5 hbs]
      simp [Addr.add_lit]
    · intro i hi
      rw [hlen] at hi
      have e1 : off + n + i = off + (n + i) := by omega
      rw [e1, h6 (n + i) (by omega)]
      simp
end
set_option maxRecDepth 100000 in
set_option maxHeartbeats 4000000 in
theorem rstr_any {B p g : Nat} {vb : Value} {bs : List UInt8} {k : Nat} (w : World) (h : TS B p g vb bs k w) (hk : k < bs.length) (hm : bs.length ≤ 1000000) :
    Calls Tryd.prog 8 #[.pointer (some ⟨p, 0, none⟩)] w (RStrRes B p g vb bs w (refT bs[k].toNat (bs.drop k) (bs.drop (k + 1)) [] 1)) := by
  have H0 := hid h
  have hpS := h.lt
  have hgS := h.gl
  have hgp := h.gp
  obtain ⟨c0, c1, f1⟩ := h.c
  obtain ⟨ao, cap, rfl, hcell⟩ := view_open h.view
  obtain ⟨o, rfl, hck⟩ := hcell k hk
  clear h hcell
  generalize bs[k] = d at *
  have bd := byte_bd d
  go_enter Tryd.func8, Tryd.ntmps8
  go_wp2_with fail
  go_quiet (fail)
  go_upto_region 3 with fail
  go_cut [] from 25 to 31 (fun wx => TS B p g (.slice (some ⟨g, o, none⟩) bs.length cap) bs (k + 1) wx ∧ Grw p w wx)
  case first =>
    go_wp2_with fail
    go_meet
    exact ⟨(H0.out.drewN _).atZ ((k : Int) + 1) (by omega) (by omega), ((Grw.refl _ _).drewN _).set _ _⟩
  case rest =>
    obtain ⟨hts, hb⟩ := hcut
    have HT := hid hts
    have HB := hid hb
    clear H0 hts hb hck c0 c1 f1
    go_wp2_with fail
    go_loopw [6, 7] (fun u t wr => ∃ (j told : Nat) (out : List UInt8), (told = 1 ∨ told = 2) ∧ t = .int .i64 (told : Int) ∧ refT d.toNat (bs.drop k) (bs.drop (k + 1)) [] 1 = refT d.toNat (bs.drop k) (bs.drop j) out told ∧ k + 1 ≤ j ∧ OwnB wr w.heap.size 5 u out ∧ out.length ≤ 4 * j ∧ TS B p g (.slice (some ⟨g, o, none⟩) bs.length cap) bs j wr ∧ Grw p w wr) (fun _ _ wr => atM bs.length p wr)
    case atStart => exact ⟨k + 1, 1, [], .inl rfl, rfl, rfl, Nat.le_refl _, OwnB.nil _ _ _, by simp, HT.out, HB.out⟩
    case round =>
      obtain ⟨j, told, out, htd, rfl, hrt, hkj, hown, hol, hts, hb⟩ := hrel
      clear HT HB
      have HT := hid hts
      have HB := hid hb
      have HRT := hid hrt
      have HOWN := hid hown
      have HTD := hid htd
      obtain ⟨c0, c1, f1⟩ := hts.c
      have hle := hts.le
      have hsz := World.grownBy.size hb
      obtain ⟨ao, cp, hao, hcell⟩ := view_open hts.view
      cases hao
      obtain ⟨aoo, cpo, rfl⟩ := ownsRow_slice hown
      clear hts hb hrt hown htd
      by_cases hlt : j < bs.length
      · obtain ⟨o', ho', hck⟩ := hcell j hlt
        cases ho'
        have hltI : decide ((j : Int) < (bs.length : Int)) = true := by simp; omega
        have HRC : Hid (bs.drop j = bs[j] :: bs.drop (j + 1)) := hid (List.drop_eq_getElem_cons hlt)
        generalize bs[j] = c at *
        have bc := byte_bd c
        clear hcell
        go_wp2_with fail
        go_quiet (fail)
        go_wp2_with fail
        go_quiet (fail)
        generalize hwd : World.drewN _ _ = wd
        have HTd : Hid (TS B p g (.slice (some ⟨g, o, none⟩) bs.length cap) bs j wd) := hid (by rw [← hwd]; first | exact HT.out.drewN _ | exact (HT.out.drewN _).drewN _)
        have HBd : Hid (Grw p w wd) := hid (by rw [← hwd]; first | exact HB.out.drewN _ | exact (HB.out.drewN _).drewN _)
        have HOd : Hid (OwnB wd w.heap.size 5 (.slice aoo out.length cpo) out) := hid (by rw [← hwd]; exact HOWN.out)
        have hszd := World.grownBy.size HBd.out
        have HAT := hid (atM_eq HT.out)
        clear hwd hsz hck c0 c1 f1 HT HB HOWN
        obtain ⟨c0, c1, f1⟩ := HTd.out.c
        go_upto_region 10 with fail
        by_cases hcd : c.toNat = d.toNat
        · as_aux_lemma =>
            have e0 : ((c.toNat : Int) == (d.toNat : Int)) = true := by simp; omega
            have HN : Hid (refT d.toNat (bs.drop k) (bs.drop (k + 1)) [] 1 = (out, (if utf8V ((bs.drop k).take (j + 1 - k)) then told else 2), bs.length - (j + 1))) := hid (by
              rw [HRT.out, HRC.out, refT_cons, if_pos hcd]
              simp only [List.length_drop]
              rw [show bs.length - k - (bs.length - (j + 1)) = j + 1 - k by omega])
            obtain ⟨vs, hsl, hvs⟩ := view_both (P := Tryd.prog) HTd.out.view 27 5 Tryd.underlying27 info5u .i64 .i64 (k : Int) ((j : Int) + 1) k (j + 1) rfl (by omega) (by omega) (by omega)
            have HSL := hid hsl
            have HVS := hid hvs
            clear hsl hvs hcd
            go_upto_region 11 with fail
            go_cut [] from 67 to 73 (fun wx => TS B p g (.slice (some ⟨g, o, none⟩) bs.length cap) bs (j + 1) wx ∧ Grw p w wx ∧ OwnB wx w.heap.size 5 (.slice aoo out.length cpo) out ∧ Grw p wd wx)
            case first =>
              go_wp2_with fail
              go_meet
              exact ⟨HTd.out.atZ ((j : Int) + 1) (by omega) (by omega), HBd.out.set _ _, HOd.out.grw ((Grw.refl _ _).set _ _) hpS, (Grw.refl _ _).set _ _⟩
            case rest =>
              obtain ⟨hts, hb, how, hgr⟩ := hcut
              rename_i KK
              refine KK _ _ ?_
              clear KK
              obtain ⟨d0, d1, _⟩ := hts.c
              have hgx : wc.heap[g]? = wd.heap[g]? := World.grownBy.block hgr g HTd.out.gl (fun e => hgp (by injection e))
              have hvx : ∀ W : World, W.heap[g]? = wc.heap[g]? → View W g vs ((bs.drop k).take (j + 1 - k)) := fun W hW => HVS.out.kept (hW.trans hgx)
              have HTx := hid hts
              have HBx := hid hb
              have HOx := hid how
              have hlen : ((bs.drop k).take (j + 1 - k)).length ≤ 1000000 := by simp; omega
              have HUV : Hid (∀ W : World, W.heap[g]? = wc.heap[g]? → Calls Tryd.prog 11 #[vs] W fun e w' => e = .returned (.bool (utf8V ((bs.drop k).take (j + 1 - k)))) ∧ Below W.heap.size W w') := hid fun W hW => utf8Valid_any vs _ g W (hvx W hW) hlen
              clear hts hb how hgr hgx hvx hlen c0 c1 f1
              have hsl := HSL.out
              have hpx := HTx.out.lt
              generalize utf8V ((bs.drop k).take (j + 1 - k)) = bv at *
              clear HTd HBd HOd HVS HSL
              rcases bv with _ | _
              all_goals
                go_upto_region 12 with fail
                go_region_held3 (fun w' => w'.cell? ⟨p, 0, none⟩ = some (.slice (some ⟨g, o, none⟩) bs.length cap) ∧ w'.cell? ⟨p, 1, none⟩ = some (.int .i64 ((j : Int) + 1))) (first | with_reducible exact K3.out | go_keep)
                  ((go_at_call 11; refine (Calls.mono (HUV.out _ rfl) ?_); rintro e w2 ⟨rfl, hb2⟩; have K3 : Hid (w2.cell? ⟨p, 0, none⟩ = some (.slice (some ⟨g, o, none⟩) bs.length cap) ∧ w2.cell? ⟨p, 1, none⟩ = some (.int .i64 ((j : Int) + 1))) := hid ⟨(hb2.cell (p := ⟨p, 0, none⟩) hpx).trans d0, (hb2.cell (p := ⟨p, 1, none⟩) hpx).trans d1⟩; have HB2 := hid hb2; clear hb2))
                all_goals
                  go_wp2_with fail
                  go_ret2
                  exact .yes HN.out (by omega) _ _ (by rfl) ((HOx.out.below ((Below.refl _ _).drew)).below HB2.out) (HTx.out.below ((Below.refl _ _).drew.trans HB2.out)) (HBx.out.thenBelow ((Below.refl _ _).drew.trans HB2.out))
        · have e0 : ((c.toNat : Int) == (d.toNat : Int)) = false := by simp; omega
          by_cases h10 : c.toNat = 10
          · have HN : Hid (refT d.toNat (bs.drop k) (bs.drop (k + 1)) [] 1 = ([], 0, 0)) := hid (by rw [HRT.out, HRC.out, refT_cons, if_neg hcd, if_pos h10])
            have e1 : ((c.toNat : Int) == 10) = true := by simp; omega
            clear h10 hcd
            go_wp2_with fail
            go_ret2
            exact .no HN.out _ HBd.out
          · have e1 : ((c.toNat : Int) == 10) = false := by simp; omega
            by_cases h92 : c.toNat = 92
            · as_aux_lemma =>
                have e2 : ((c.toNat : Int) == 92) = true := by simp; omega
                have HE := hid (escape_any wd HTd.out hlt (by omega))
                have hrr : refT d.toNat (bs.drop k) (bs.drop (k + 1)) [] 1 = (match escRT (bs.drop (j + 1)) with
                    | none => ([], 0, 0)
                    | some (x, n, ok) => refT d.toNat (bs.drop k) ((bs.drop (j + 1)).drop n) (out ++ x) (max told ok)) := by rw [HRT.out, HRC.out, refT_cons, if_neg hcd, if_neg h10, if_pos h92]; rfl
                rcases he : escRT (bs.drop (j + 1)) with _ | ⟨x, n, ok⟩
                · rw [he] at HE hrr
                  have HN := hid hrr
                  clear hrr he hcd h10 h92
                  go_wp2_with (first
                    | (go_at_call 12; refine (Calls.mono HE.out ?_); rintro e w1 ⟨⟨v1, rfl⟩, hg1⟩)
                    | fail)
                  go_ret2
                  exact .no HN.out _ (HBd.out.trans hg1)
                · rw [he] at HE hrr
                  obtain ⟨hn1, hn2, hok⟩ := escRT_size he
                  have hxl := escRT_len he
                  have hn3 : j + 1 + n ≤ bs.length := by simp at hn1; omega
                  have HR : Hid (refT d.toNat (bs.drop k) (bs.drop (k + 1)) [] 1 = refT d.toNat (bs.drop k) (bs.drop (j + 1 + n)) (out ++ x) (max told ok)) := hid (by rw [hrr]; simp only [List.drop_drop])
                  have hz : ((ok : Int) == 0) = false := by simp; omega
                  have HOK := hid hok
                  clear hrr he hcd h10 h92 hn1 hok
                  go_wp2_with (first
                    | (go_at_call 12; refine (Calls.mono HE.out ?_); rintro e w1 ⟨v1, rfl, ⟨g1, hv1⟩, ht1, hg1⟩; obtain ⟨ao3, n3, cp3, rfl⟩ := hv1.slice3; have hsz1 := Nat.le_trans hszd (World.grownBy.size hg1); have HV1 := hid hv1; have HT1 := hid ht1; have HG1 := hid hg1; have HO1 := hid (HOd.out.grw hg1 hpS); clear hv1 ht1 hg1)
                    | (refine wpList_append_view _ rfl _ _ 27 rfl w.heap.size 5 Tryd.underlying27 info5u _ out rfl HO1.out (Below.refl _ _) hsz1 g1 _ x rfl HV1.out (by omega) ?_; intro v2 w2 ho2 hb2 _; have HO2 := hid ho2; have HB2 := hid hb2; clear ho2 hb2)
                    | fail)
                  go_roundw
                  case rel => exact ⟨j + 1 + n, max told ok, out ++ x, by have := HTD.out; have := HOK.out; omega, by congr 1; omega, HR.out, by omega, HO2.out, by simp; omega, HT1.out.keptB HB2.out hpS hgS, (HBd.out.trans HG1.out).add HB2.out (Nat.le_refl _)⟩
                  case measure => rw [atM_eq (HT1.out.keptB HB2.out hpS hgS), HAT.out]; omega
            · have e2 : ((c.toNat : Int) == 92) = false := by simp; omega
              have HR0 : Hid (refT d.toNat (bs.drop k) (bs.drop (k + 1)) [] 1 = refT d.toNat (bs.drop k) (bs.drop (j + 1)) (out ++ [c]) (if ctlC c then 2 else told)) := hid (by rw [HRT.out, HRC.out, refT_cons, if_neg hcd, if_neg h10, if_neg h92])
              have hcs : (ctlC c = true ∧ (((c.toNat : Int) < 32 ∧ ((c.toNat : Int) != 9) = true) ∨ (¬ (c.toNat : Int) < 32 ∧ ((c.toNat : Int) == 127) = true))) ∨
                  (ctlC c = false ∧ ((¬ (c.toNat : Int) < 32 ∧ ((c.toNat : Int) == 127) = false ∧ (128 : Int) ≤ (c.toNat : Int)) ∨ ((c.toNat : Int) < 32 ∧ ((c.toNat : Int) != 9) = false ∧ ((c.toNat : Int) == 127) = false ∧ ¬ (128 : Int) ≤ (c.toNat : Int)) ∨ (¬ (c.toNat : Int) < 32 ∧ ((c.toNat : Int) == 127) = false ∧ ¬ (128 : Int) ≤ (c.toNat : Int)))) := by
                unfold ctlC
                simp
                omega
              clear hcd h10 h92
              rcases hcs with ⟨hct, hcs⟩ | ⟨hct, hcs⟩
              · have HR : Hid (refT d.toNat (bs.drop k) (bs.drop (k + 1)) [] 1 = refT d.toNat (bs.drop k) (bs.drop (j + 1)) (out ++ [c]) 2) := hid (by rw [HR0.out, hct]; rfl)
                clear HR0 hct
                rcases hcs with ⟨q1, q2⟩ | ⟨q1, q2⟩
                · as_aux_lemma =>
                    have q3 : (c.toNat : Int) < 128 := by omega
                    go_wp2_with (first
                      | (at_builtin; refine wpList_append_byte _ rfl _ _ 27 rfl w.heap.size 5 Tryd.underlying27 info5u _ out rfl HOd.out (w0 := wd) (Below.refl _ _) hszd _ bc 1 rfl (by omega) ?_; intro v1 w1 ho1 hb1; rw [byte_of] at ho1; have HO1 := hid ho1; have c2 := (hb1.cell (p := ⟨p, 1, none⟩) hpS).trans c1; have f2 := (hb1.frozen (p := ⟨p, 1, none⟩) hpS).trans f1; have HB1 := hid hb1; clear ho1 hb1)
                      | fail)
                    go_roundw
                    case rel => exact ⟨j + 1, 2, out ++ [c], .inr rfl, rfl, HR.out, by omega, HO1.out.grw ((Grw.refl _ _).set _ _) hpS, by simp; omega, (HTd.out.keptB HB1.out hpS hgS).atZ _ (by omega) (by omega), (HBd.out.add HB1.out (Nat.le_refl _)).set _ _⟩
                    case measure => rw [atM_eq ((HTd.out.keptB HB1.out hpS hgS).atZ ((j : Int) + 1) (j := j + 1) (by omega) (by omega)), HAT.out]; omega
                · as_aux_lemma =>
                    have q3 : (c.toNat : Int) < 128 := by simp at q2; omega
                    go_wp2_with (first
                      | (at_builtin; refine wpList_append_byte _ rfl _ _ 27 rfl w.heap.size 5 Tryd.underlying27 info5u _ out rfl HOd.out (w0 := wd) (Below.refl _ _) hszd _ bc 1 rfl (by omega) ?_; intro v1 w1 ho1 hb1; rw [byte_of] at ho1; have HO1 := hid ho1; have c2 := (hb1.cell (p := ⟨p, 1, none⟩) hpS).trans c1; have f2 := (hb1.frozen (p := ⟨p, 1, none⟩) hpS).trans f1; have HB1 := hid hb1; clear ho1 hb1)
                      | fail)
                    go_roundw
                    case rel => exact ⟨j + 1, 2, out ++ [c], .inr rfl, rfl, HR.out, by omega, HO1.out.grw ((Grw.refl _ _).set _ _) hpS, by simp; omega, (HTd.out.keptB HB1.out hpS hgS).atZ _ (by omega) (by omega), (HBd.out.add HB1.out (Nat.le_refl _)).set _ _⟩
                    case measure => rw [atM_eq ((HTd.out.keptB HB1.out hpS hgS).atZ ((j : Int) + 1) (j := j + 1) (by omega) (by omega)), HAT.out]; omega
              · have HR : Hid (refT d.toNat (bs.drop k) (bs.drop (k + 1)) [] 1 = refT d.toNat (bs.drop k) (bs.drop (j + 1)) (out ++ [c]) told) := hid (by rw [HR0.out, hct]; rfl)
                clear HR0 hct
                rcases hcs with ⟨q1, q2, q3⟩ | ⟨q1, q2, q3, q4⟩ | ⟨q1, q2, q3⟩
                · as_aux_lemma =>
                    have q5 : ¬ (c.toNat : Int) < 128 := by omega
                    go_wp2_with (first
                      | (at_builtin; refine wpList_append_byte _ rfl _ _ 27 rfl w.heap.size 5 Tryd.underlying27 info5u _ out rfl HOd.out (w0 := wd) (Below.refl _ _) hszd _ bc 1 rfl (by omega) ?_; intro v1 w1 ho1 hb1; rw [byte_of] at ho1; have HO1 := hid ho1; have c2 := (hb1.cell (p := ⟨p, 1, none⟩) hpS).trans c1; have f2 := (hb1.frozen (p := ⟨p, 1, none⟩) hpS).trans f1; have HB1 := hid hb1; clear ho1 hb1)
                      | fail)
                    go_roundw
                    case rel => exact ⟨j + 1, told, out ++ [c], HTD.out, rfl, HR.out, by omega, HO1.out.grw ((Grw.refl _ _).set _ _) hpS, by simp; omega, (HTd.out.keptB HB1.out hpS hgS).atZ _ (by omega) (by omega), (HBd.out.add HB1.out (Nat.le_refl _)).set _ _⟩
                    case measure => rw [atM_eq ((HTd.out.keptB HB1.out hpS hgS).atZ ((j : Int) + 1) (j := j + 1) (by omega) (by omega)), HAT.out]; omega
                · as_aux_lemma =>
                    go_wp2_with (first
                      | (at_builtin; refine wpList_append_byte _ rfl _ _ 27 rfl w.heap.size 5 Tryd.underlying27 info5u _ out rfl HOd.out (w0 := wd) (Below.refl _ _) hszd _ bc 1 rfl (by omega) ?_; intro v1 w1 ho1 hb1; rw [byte_of] at ho1; have HO1 := hid ho1; have c2 := (hb1.cell (p := ⟨p, 1, none⟩) hpS).trans c1; have f2 := (hb1.frozen (p := ⟨p, 1, none⟩) hpS).trans f1; have HB1 := hid hb1; clear ho1 hb1)
                      | fail)
                    go_roundw
                    case rel => exact ⟨j + 1, told, out ++ [c], HTD.out, rfl, HR.out, by omega, HO1.out.grw ((Grw.refl _ _).set _ _) hpS, by simp; omega, (HTd.out.keptB HB1.out hpS hgS).atZ _ (by omega) (by omega), (HBd.out.add HB1.out (Nat.le_refl _)).set _ _⟩
                    case measure => rw [atM_eq ((HTd.out.keptB HB1.out hpS hgS).atZ ((j : Int) + 1) (j := j + 1) (by omega) (by omega)), HAT.out]; omega
                · as_aux_lemma =>
                    go_wp2_with (first
                      | (at_builtin; refine wpList_append_byte _ rfl _ _ 27 rfl w.heap.size 5 Tryd.underlying27 info5u _ out rfl HOd.out (w0 := wd) (Below.refl _ _) hszd _ bc 1 rfl (by omega) ?_; intro v1 w1 ho1 hb1; rw [byte_of] at ho1; have HO1 := hid ho1; have c2 := (hb1.cell (p := ⟨p, 1, none⟩) hpS).trans c1; have f2 := (hb1.frozen (p := ⟨p, 1, none⟩) hpS).trans f1; have HB1 := hid hb1; clear ho1 hb1)
                      | fail)
                    go_roundw
                    case rel => exact ⟨j + 1, told, out ++ [c], HTD.out, rfl, HR.out, by omega, HO1.out.grw ((Grw.refl _ _).set _ _) hpS, by simp; omega, (HTd.out.keptB HB1.out hpS hgS).atZ _ (by omega) (by omega), (HBd.out.add HB1.out (Nat.le_refl _)).set _ _⟩
                    case measure => rw [atM_eq ((HTd.out.keptB HB1.out hpS hgS).atZ ((j : Int) + 1) (j := j + 1) (by omega) (by omega)), HAT.out]; omega
      · have HN : Hid (refT d.toNat (bs.drop k) (bs.drop (k + 1)) [] 1 = ([], 0, 0)) := hid (by rw [HRT.out, show bs.drop j = [] from List.drop_of_length_le (by omega)]; rfl)
        have hltI : decide ((j : Int) < (bs.length : Int)) = false := by simp; omega
        clear hcell
        go_wp2_with fail
        go_quiet (fail)
        go_wp2_with fail
        go_ret2
        exact .no HN.out _ (HB.out.drewN _)
end Go.Proofs.YtgdnpnipahegaaaDoor
