/-
  The law FnTextUnquotes, walked: the package's unquote; what the law makes of both.
-/
import Derived.Test.YtgdnpnipahegaaaDoorTUnqR
import Derived.Test.YtgdnpnipahegaaaDoorTString
namespace Go.Proofs.YtgdnpnipahegaaaDoor
open Go.ChangeShapes Go.WideShapes Go.ChangeAt Go.RowKit

section
variable {B p g : Nat} {bs : List UInt8} {vr ve vst vo vi : Value}
set_option maxRecDepth 100000 in
theorem parseString_nil (s : DT) (w : World) (h : DW B p g bs vr ve vst vo vi s w) (hd : bs.drop s.k = []) :
    Calls Tryd.prog 14 #[.pointer (some ⟨p, 0, none⟩)] w fun e w' => (∃ te x, e = .returned (.tuple #[.string ⟨#[]⟩, .iface te x])) ∧ Below w.heap.size w w' := by
  have hv := h.inn
  rw [hd] at hv
  obtain ⟨ao, c, rfl⟩ := hv.slice
  obtain ⟨c10, _⟩ := h.c10
  obtain ⟨te, x, hc⟩ := h.glob.eof
  clear h hv hd
  simp only [List.length_nil] at c10
  go_enter Tryd.func14, Tryd.ntmps14
  go_wp2_with fail
  go_quiet (fail)
  go_wp2_with fail
  go_ret2
  exact ⟨⟨te, x, rfl⟩, (Below.refl _ _).trans ⟨rfl, rfl, rfl, Nat.le_refl _, fun _ _ => rfl⟩⟩
end
def UnqResB (B : Nat) (o : Option (List UInt8)) (w : World) (e : Ending) (w' : World) : Prop := Below B w w' ∧ match o with
  | some t => e = .returned (.tuple #[.string ⟨t.toArray⟩, .nilIface])
  | none => ∃ te x, e = .returned (.tuple #[.string ⟨#[]⟩, .iface te x])
theorem parse_all (l : List UInt8) (hm : l.length ≤ 1000000) (hq : ∀ c r, l = c :: r → c.toNat = 34 ∨ c.toNat = 39) (B p g : Nat) (v : Value) (W : World) (h : DW B p g l (.slice none 0 0) .nilIface (.slice none 0 0) v v DT.new W) (hp : p < W.heap.size) (hB : B ≤ p) :
    Calls Tryd.prog 14 #[.pointer (some ⟨p, 0, none⟩)] W (UnqResB B (unqT l) W) := by
  rcases l with _ | ⟨c, r⟩
  · exact (parseString_nil _ W h rfl).mono fun e w' hh => ⟨hh.2.mono (by omega), hh.1⟩
  · refine (parseString_any DT.new W h hp c r rfl (hq c r rfl) (by omega)).mono fun e w' hh => ?_
    rcases hs : strT c.toNat r [] with _ | ⟨t, m⟩
    · have e1 : unqT (c :: r) = none := by simp only [unqT, hs]
      rw [hs] at hh
      rw [e1]
      exact ⟨hh.2.mono (by omega), hh.1⟩
    · have e1 : unqT (c :: r) = some t := by simp only [unqT, hs]
      rw [hs] at hh
      rw [e1]
      obtain ⟨h1, vi', _, h3⟩ := hh
      exact ⟨⟨h3.os, h3.tape, h3.output, h3.size, fun k hk => h3.block k (by omega) (fun e => by injection e with e; omega)⟩, h1⟩
/-- what the package's unquote gives -/
def UnqRes (o : Option (List UInt8)) (w : World) (e : Ending) (w' : World) : Prop := Below w.heap.size w w' ∧ match o with
  | some t => e = .returned (.tuple #[.string ⟨t.toArray⟩, .nilIface])
  | none => ∃ te x, e = .returned (.tuple #[.string ⟨#[]⟩, .iface te x])
def UnqImpl (o : Option (List UInt8)) (w : World) (e : Ending) (w' : World) : Prop := Below w.heap.size w w' ∧ match o with
  | some t => e = .returned (.tuple #[.string ⟨t.toArray⟩, .bool true])
  | none => e = .returned (.tuple #[.string ⟨#[]⟩, .bool false])
theorem UnqRes.no {o : Option (List UInt8)} {w w' : World} (h : o = none) (te : TypeId) (x : Value) (hb : Below w.heap.size w w') : UnqRes o w (.returned (.tuple #[.string ⟨#[]⟩, .iface te x])) w' := by rw [h]; exact ⟨hb, te, x, rfl⟩
theorem UnqRes.yes {o : Option (List UInt8)} {t : List UInt8} {w w' : World} (h : o = some t) (hb : Below w.heap.size w w') : UnqRes o w (.returned (.tuple #[.string ⟨t.toArray⟩, .nilIface])) w' := by rw [h]; exact ⟨hb, rfl⟩
theorem UnqImpl.no {o : Option (List UInt8)} {w w' : World} (h : o = none) (hb : Below w.heap.size w w') : UnqImpl o w (.returned (.tuple #[.string ⟨#[]⟩, .bool false])) w' := by rw [h]; exact ⟨hb, rfl⟩
theorem UnqImpl.yes {o : Option (List UInt8)} {t : List UInt8} {w w' : World} (h : o = some t) (hb : Below w.heap.size w w') : UnqImpl o w (.returned (.tuple #[.string ⟨t.toArray⟩, .bool true])) w' := by rw [h]; exact ⟨hb, rfl⟩
set_option maxRecDepth 100000 in
theorem unmarshal_any (l : List UInt8) (w : World) (hg : Glob w) (h9 : 9 ≤ w.heap.size) (hm : l.length ≤ 1000000) (hq : ∀ c r, l = c :: r → c.toNat = 34 ∨ c.toNat = 39) :
    Calls Tryd.prog 9 #[.string ⟨l.toArray⟩] w (UnqRes (unqT l) w) := by
  have HG := hid hg
  have hml : l.length ≤ maxLen := by unfold maxLen; omega
  have HP := hid (parse_all l hm hq)
  clear hg
  go_enter Tryd.func9, Tryd.ntmps9
  go_upto_region 2 with (first
    | (refine wpList_bytes_str _ rfl _ 9 27 5 rfl Tryd.underlying9 Tryd.underlying27 Tryd.underlying5 l rfl hml ?_; intro cap1 w1 hv1 hs1 hb1; have HV1 := hid hv1; have HB1 := hid hb1; have HS1 := hid hs1; clear hv1 hb1 hs1)
    | (go_at_call 13; refine (Calls.mono (newDecoder_any _ _ _ _ HV1.out (by have := HS1.out; omega) (HG.out.below HB1.out) (by have := HS1.out; omega)) ?_); rintro e w2 ⟨rfl, hd2, hb2⟩; have HD2 := hid hd2; have HB2 := hid hb2; clear hd2 hb2)
    | fail)
  rcases ho : unqT l with _ | t
  · rw [ho] at HP
    have HO := hid ho
    clear ho
    go_wp2_with (first
      | (go_at_call 14; refine (Calls.mono (HP.out _ _ _ _ _ HD2.out HD2.out.lt (Nat.le_refl _)) ?_); rintro e w3 ⟨hb3, te, x, rfl⟩; have HB3 := hid hb3; clear hb3)
      | fail)
    go_ret2
    exact .no HO.out te x (HB1.out.trans (HB2.out.mono (by have := HS1.out; omega) |>.trans (HB3.out.mono (by have := HS1.out; omega))))
  · rw [ho] at HP
    have HO := hid ho
    clear ho
    go_wp2_with (first
      | (go_at_call 14; refine (Calls.mono (HP.out _ _ _ _ _ HD2.out HD2.out.lt (Nat.le_refl _)) ?_); rintro e w3 ⟨hb3, rfl⟩; have HB3 := hid hb3; clear hb3)
      | fail)
    go_ret2
    exact .yes HO.out (HB1.out.trans (HB2.out.mono (by have := HS1.out; omega) |>.trans (HB3.out.mono (by have := HS1.out; omega))))
theorem textUnquote_any (l : List UInt8) (w : World) (hg : Glob w) (h9 : 9 ≤ w.heap.size) (hm : l.length ≤ 1000000) (hq : ∀ c r, l = c :: r → c.toNat = 34 ∨ c.toNat = 39) :
    Calls Tryd.prog 6 #[.string ⟨l.toArray⟩] w (UnqImpl (unqT l) w) := by
  have HU := hid (unmarshal_any l w hg h9 hm hq)
  clear hg hq
  rcases ho : unqT l with _ | t
  · rw [ho] at HU
    clear ho
    go_enter Tryd.func6, Tryd.ntmps6
    go_wp2_with (first
      | (go_at_call 9; refine (Calls.mono HU.out ?_); rintro e w3 ⟨hb3, te, x, rfl⟩; have HB3 := hid hb3; clear hb3)
      | fail)
    go_ret2
    exact .no rfl HB3.out
  · rw [ho] at HU
    clear ho
    go_enter Tryd.func6, Tryd.ntmps6
    go_wp2_with (first
      | (go_at_call 9; refine (Calls.mono HU.out ?_); rintro e w3 ⟨hb3, rfl⟩; have HB3 := hid hb3; clear hb3)
      | fail)
    go_ret2
    exact .yes rfl HB3.out
theorem unqR_quote {l : List UInt8} (h : (refU l).2 ≠ 2) : ∀ c r, l = c :: r → c.toNat = 34 ∨ c.toNat = 39 := by
  rintro c r rfl
  by_cases hq : c.toNat ≠ 34 ∧ c.toNat ≠ 39
  · exfalso
    apply h
    show (refUC c r).2 = 2
    rw [refUC_eq, if_pos hq]
  · omega
/-- the law returns true; nothing that was there has changed -/
def LawTrue (w : World) (e : Ending) (w' : World) : Prop := e = .returned (.bool true) ∧ Below w.heap.size w w'
set_option maxRecDepth 100000 in
theorem fnTextUnquotes_law (l : List UInt8) (w : World) (hg : Glob w) (h9 : 9 ≤ w.heap.size) : Calls Tryd.prog 3 #[.string ⟨l.toArray⟩] w (LawTrue w) := by
  have hsz := size_mk l
  have HG := hid hg
  clear hg
  by_cases hm : l.length ≤ 2000
  · have hmI : (l.length : Int) ≤ 2000 := by omega
    have HR := hid (textUnquoteR_any l w (by omega))
    have HS := unquote_same l
    have HU := fun (h : (refU l).2 ≠ 2) (W : World) (hb : Below w.heap.size w W) => textUnquote_any l W (HG.out.below hb) (Nat.le_trans h9 hb.size) (by omega) (unqR_quote h)
    unfold UnqR at HR
    rcases HS with h2 | ⟨h1, hu⟩ | ⟨h0, hu⟩
    · rw [h2] at HR
      clear HU h2
      go_enter Tryd.func3, Tryd.ntmps3
      go_wp2_with (first
        | (go_at_call 5; refine (Calls.mono HR.out ?_); rintro e w1 ⟨rfl, hb1⟩; have HB1 := hid hb1; clear hb1)
        | fail)
      go_ret
      exact ⟨rfl, HB1.out⟩
    · have HU := hid (HU (by omega))
      rw [h1] at HR
      rw [hu] at HU
      generalize (refU l).1 = t at *
      clear h1 hu
      go_enter Tryd.func3, Tryd.ntmps3
      go_wp2_with (first
        | (go_at_call 5; refine (Calls.mono HR.out ?_); rintro e w1 ⟨rfl, hb1⟩; have HB1 := hid hb1; clear hb1)
        | (go_at_call 6; refine (Calls.mono (HU.out _ HB1.out) ?_); rintro e w2 ⟨hb2, rfl⟩; have HB2 := hid (HB1.out.trans (hb2.mono HB1.out.size)); clear hb2)
        | fail)
      go_ret
      exact ⟨rfl, HB2.out⟩
    · have HU := hid (HU (by omega))
      rw [h0] at HR
      rw [hu] at HU
      generalize (refU l).1 = t at *
      clear h0 hu
      go_enter Tryd.func3, Tryd.ntmps3
      go_wp2_with (first
        | (go_at_call 5; refine (Calls.mono HR.out ?_); rintro e w1 ⟨rfl, hb1⟩; have HB1 := hid hb1; clear hb1)
        | (go_at_call 6; refine (Calls.mono (HU.out _ HB1.out) ?_); rintro e w2 ⟨hb2, rfl⟩; have HB2 := hid (HB1.out.trans (hb2.mono HB1.out.size)); clear hb2)
        | fail)
      go_ret
      exact ⟨rfl, HB2.out⟩
  · have hmI : ¬ (l.length : Int) ≤ 2000 := by omega
    go_enter Tryd.func3, Tryd.ntmps3
    go_wp2_with fail
    all_goals
      go_ret
      exact ⟨rfl, Below.refl _ _⟩
theorem fnTextUnquotes_any (s : ByteArray) (w : World) (hg : Glob w) (h9 : 9 ≤ w.heap.size) : Calls Tryd.prog 3 #[.string s] w (LawTrue w) := by
  have := fnTextUnquotes_law s.data.toList w hg h9
  rwa [show (⟨s.data.toList.toArray⟩ : ByteArray) = s by simp] at this
end Go.Proofs.YtgdnpnipahegaaaDoor
