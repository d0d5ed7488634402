/-
  What every law of this seat needs: from a contract of the law's call (it returns true, and below the heap's old size nothing has changed) to the row's own words.
-/
import Derived.Test.YtgdnpnipahegaaaDoorRows
import Derived.WalkKit
import Derived.WalkSpells
import Derived.WalkLawsBesides
import Derived.ProofKit
namespace Go.Proofs.YtgdnpnipahegaaaDoor
open Go.ChangeShapes Go.WideShapes Go.ChangeAt Go.RowKit

theorem Tryd.own : ownKnob Tryd.prog.godebug = none := by kernel_rfl
theorem Tryd.laidOut : laidOutB Tryd.prog = true := by kernel_rfl

theorem below_comp {a b c : World} (h1 : Below a.heap.size a b) (h2 : Below b.heap.size b c) : Below a.heap.size a c := h1.trans (h2.mono h1.size)

/-- All arguments read as they did, where nothing below the heap's old size has changed. -/
theorem trodAll_below {H : Type} {enc : TypeId × Value → H} {P : Program} (hl : laidOutB P = true) {W W' : World} (hb : Below W.heap.size W W') :
    ∀ {ts : List TypeId} {vs : List Value} {ds : List (DataW H)} {ps : List MemPlace}, (ts.all fun t => P.readableRec t && decide (t < P.types.size)) = true →
      (∀ x ∈ ps, x.block < W.heap.size) → DataW.TrodAll enc P W 0 (fun _ => true) true ts vs ds ps →
      DataW.TrodAll enc P W' 0 (fun b => decide (b < W.heap.size)) true ts vs ds ps
  | [], _, _, _, _, _, h => by
    obtain ⟨rfl, rfl, rfl⟩ := trodAll_nil h
    exact trodAll_mk0
  | t :: ts, _, _, _, hr, hlt, h => by
    obtain ⟨v, vs', d, ds', p, q, rfl, rfl, rfl, h1, h2⟩ := trodAll_cons h
    simp only [List.all_cons, Bool.and_eq_true, decide_eq_true_eq] at hr
    exact ⟨p, q, Below.trod hl hr.1.1 hr.1.2 h1 hb (fun x hx => hlt x (by simp [hx])), trodAll_below hl hb hr.2 (fun x hx => hlt x (by simp [hx])) h2, rfl⟩

/-- THE LAW's POST: it returned true; nothing that was there has changed. -/
theorem law_post {H : Type} {enc : TypeId × Value → H} {P : Program} (hl : laidOutB P = true) {f : Func} {s : ChangeSpec} {W W' : World} {args : Array Value} {ds gs : List (DataW H)} {before : List MemPlace} {tb : TypeId}
    (hW : DataW.Whole enc P f.params.toList s.vars false W args.toList ds gs before) (hv : s.vars = []) (ht : f.resultTypes = #[tb]) (hbool : P.underlying tb = some .bool)
    (hr : (f.params.toList.all fun t => P.readableRec t && decide (t < P.types.size)) = true)
    (hfn : s.fn H ds = { results := [.lit (.bool true)], args := ds }) (hb : Below W.heap.size W W') :
    s.post enc P f false true false false W args (.bool true) W' := by
  have hlt := hW.lt
  have hW0 := hW
  obtain ⟨p, q, hA, hV, rfl, hfz, hnd⟩ := hW0
  have hgs : gs = [] ∧ q = [] := by
    rw [hv] at hV
    cases gs with
    | nil => exact ⟨rfl, hV⟩
    | cons d ds => exact hV.elim
  obtain ⟨rfl, rfl⟩ := hgs
  have hds : s.fn H (ds ++ []) = { results := [.lit (.bool true)], args := ds } := by rw [List.append_nil]; exact hfn
  refine ⟨ds, [], p ++ [], [], p, [], hW, ?_, ?_, ?_, hb.frame _, fun h => by cases h⟩
  · rw [hds, ht]
    exact trodAll_mk1 (shut_bool hbool true)
  · rw [hds]
    exact trodAll_below hl hb hr (fun x hx => hlt x (by simp [hx])) hA
  · rw [hds, hv]
    rfl

end Go.Proofs.YtgdnpnipahegaaaDoor
