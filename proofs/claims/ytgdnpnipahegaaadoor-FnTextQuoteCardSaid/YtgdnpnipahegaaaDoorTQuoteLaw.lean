/-
  The package's quoting of a string, and the law on it: what is quoted is read back.
-/
import Derived.Test.YtgdnpnipahegaaaDoorTApp
import Derived.Test.YtgdnpnipahegaaaDoorTUnqT
namespace Go.Proofs.YtgdnpnipahegaaaDoor
open Go.ChangeShapes Go.WideShapes Go.ChangeAt Go.RowKit

def quoted (s : List UInt8) : List UInt8 := 34 :: quoT s ++ [34]
theorem unqT_quoted (s : List UInt8) : unqT (quoted s) = some s := by
  show (match strT 34 (quoT s ++ [34]) [] with
    | none => none
    | some (s, _) => some s) = some s
  rw [quote_back]
def QuoV (s : List UInt8) (w : World) (e : Ending) (w' : World) : Prop := ∃ v, e = .returned v ∧ OwnB w' w.heap.size 5 v (quoted s) ∧ Below w.heap.size w w'
set_option maxRecDepth 100000 in
theorem appendStringU_any (s : List UInt8) (w : World) (hm : s.length ≤ 100000) (hT : Lib.Utf8Tabs 1 2 w) (hd : w.cell? ⟨8, 15, none⟩ = some (.int .u8 4)) :
    Calls Tryd.prog 10 #[.slice none 0 0, .string ⟨s.toArray⟩] w (QuoV s w) := by
  have HA := hid (appendString_any s w hm hT hd)
  clear hT hd
  go_enter Tryd.func10, Tryd.ntmps10
  go_wp2_with (first
    | (go_at_call 15; refine (Calls.mono HA.out ?_); rintro e w1 ⟨v, rfl, ho, hb⟩; have HO := hid ho; have HB := hid hb; clear ho hb)
    | fail)
  go_ret
  exact ⟨v, rfl, HO.out, HB.out⟩
set_option maxRecDepth 100000 in
theorem textQuote_any (s : List UInt8) (w : World) (hm : s.length ≤ 100000) (hT : Lib.Utf8Tabs 1 2 w) (hd : w.cell? ⟨8, 15, none⟩ = some (.int .u8 4)) :
    Calls Tryd.prog 7 #[.string ⟨s.toArray⟩] w (QuoV s w) := by
  have HA := hid (appendStringU_any s w hm hT hd)
  clear hT hd
  go_enter Tryd.func7, Tryd.ntmps7
  go_wp2_with (first
    | (go_at_call 10; refine (Calls.mono HA.out ?_); rintro e w1 ⟨v, rfl, ho, hb⟩; have HO := hid ho; have HB := hid hb; clear ho hb)
    | fail)
  go_ret
  exact ⟨v, rfl, HO.out, HB.out⟩
set_option maxRecDepth 100000 in
theorem fnTextQuote_law (s : List UInt8) (w : World) (hg : Glob w) (h9 : 9 ≤ w.heap.size) (hd : w.cell? ⟨8, 15, none⟩ = some (.int .u8 4)) : Calls Tryd.prog 4 #[.string ⟨s.toArray⟩] w (LawTrue w) := by
  have hsz := size_mk s
  have HG := hid hg
  by_cases hm : s.length ≤ 10000
  · have hmI : (s.length : Int) ≤ 10000 := by omega
    have HQ := hid (textQuote_any s w (by omega) hg.tabs hd)
    obtain ⟨q, hq⟩ : ∃ q, q = quoted s := ⟨_, rfl⟩
    have hql : 2 ≤ q.length ∧ q.length ≤ 600001 + 1 := by
      have h2 := quoT_len s.length s
      rw [hq]
      unfold quoted quoT
      simp only [List.length_append, List.length_cons, List.length_nil]
      omega
    have hqI : (2 : Int) ≤ (q.length : Int) := by omega
    have hq0 : ∀ h, ((⟨q.toArray⟩ : ByteArray)[0]'h).toNat = 34 := by
      subst hq
      intro h
      rfl
    have hq1 : ∀ h, ((⟨q.toArray⟩ : ByteArray)[q.length - 1]'h).toNat = 34 := by
      subst hq
      intro h
      show ((quoted s)[(quoted s).length - 1]'_).toNat = 34
      simp [quoted]
    have HU := fun (W : World) (hb : Below w.heap.size w W) => textUnquote_any q W (HG.out.below hb) (Nat.le_trans h9 hb.size) (by omega) (by rw [hq]; rintro c r h; left; have := (List.cons.inj h).1; rw [← this]; rfl)
    rw [hq, unqT_quoted, ← hq] at HU
    have HU := hid HU
    unfold QuoV at HQ
    rw [← hq] at HQ
    have hqz := size_mk q
    clear hg hd hq
    go_enter Tryd.func4, Tryd.ntmps4
    go_wp2_with (first
      | (go_at_call 7; refine (Calls.mono HQ.out ?_); rintro e w1 ⟨v, rfl, ho, hb⟩; have HO := hid ho; have HB := hid hb; clear ho hb)
      | (refine wpList_string_own _ rfl _ 27 9 rfl w.heap.size 5 Tryd.underlying27 Tryd.underlying5 Tryd.underlying9 _ q rfl HO.out ?_)
      | (go_at_call 6; refine (Calls.mono (HU.out _ HB.out) ?_); rintro e w2 ⟨hb2, rfl⟩; have HB2 := hid (HB.out.trans (hb2.mono HB.out.size)); clear hb2)
      | fail)
    go_ret
    exact ⟨rfl, HB2.out⟩
  · have hmI : ¬ (s.length : Int) ≤ 10000 := by omega
    clear hg hd
    go_enter Tryd.func4, Tryd.ntmps4
    go_wp2_with fail
    all_goals
      go_ret
      exact ⟨rfl, Below.refl _ _⟩
theorem fnTextQuote_any (s : ByteArray) (w : World) (hg : Glob w) (h9 : 9 ≤ w.heap.size) (hd : w.cell? ⟨8, 15, none⟩ = some (.int .u8 4)) : Calls Tryd.prog 4 #[.string s] w (LawTrue w) := by
  have := fnTextQuote_law s.data.toList w hg h9 hd
  rwa [show (⟨s.data.toList.toArray⟩ : ByteArray) = s by simp] at this
end Go.Proofs.YtgdnpnipahegaaaDoor
