/-
  A region that draws its order, shown once for each operation: what each yields is a fact that the others leave alone. Over any program.
-/
import Derived.Test.YtjkmmhnhhiopiaaDoorBase
import Derived.Orders
namespace Go.Proofs.YtjkmmhnhhiopiaaDoor
open Go.RowKit

section
variable {P : Program} {ops : Array Oper} {Q : Exit → Act → World → Prop} {md : Region.Mode}

theorem wpAny_inv (I : Array Bool → Act → World → Prop)
    (hstep : ∀ listed a w i, I listed a w → i ∈ Region.ready md ops listed → wpOp P ops Q i (I (listed.setIfInBounds i true)) a w)
    (hend : ∀ listed a w, I listed a w → Region.ready md ops listed = [] → Q .normal a w)
    (hfuel : ∀ listed a w, I listed a w → listed.size = ops.size) :
    ∀ (fuel : Nat) (listed : Array Bool) (a : Act) (w : World), (listed.toList.filter (· == false)).length ≤ fuel → I listed a w → wpAny P md ops Q fuel listed a w := by
  intro fuel
  induction fuel with
  | zero =>
    intro listed a w hf hI
    have hn : Region.ready md ops listed = [] := by
      rw [List.eq_nil_iff_forall_not_mem]
      intro i hi
      simp only [Region.ready, List.mem_filter, List.mem_range, Bool.and_eq_true] at hi
      obtain ⟨hlt, h1, _⟩ := hi
      have hsz := hfuel _ _ _ hI
      have hl : listed[i]'(by omega) = false := by simpa [Array.getD, show i < listed.size by omega] using h1
      have hnil : listed.toList.filter (· == false) = [] := List.eq_nil_of_length_eq_zero (Nat.le_zero.1 hf)
      have hmem : false ∈ listed.toList.filter (· == false) := List.mem_filter.2 ⟨by rw [← hl]; simp, by simp⟩
      rw [hnil] at hmem
      cases hmem
    exact ⟨hn, hend _ _ _ hI hn⟩
  | succ fuel ih =>
    intro listed a w hf hI
    refine ⟨fun hn => hend _ _ _ hI hn, fun i hi => ?_⟩
    have hst := hstep listed a w i hI hi
    refine wpOp_mono (fun a' w' h => ih _ _ _ ?_ h) hst
    simp only [Region.ready, List.mem_filter, List.mem_range, Bool.and_eq_true] at hi
    obtain ⟨hlt, h1, _⟩ := hi
    have hsz := hfuel _ _ _ hI
    have hi2 : i < listed.size := by omega
    have hl : listed[i] = false := by simpa [Array.getD, hi2] using h1
    have key : ∀ (l : List Bool) (i : Nat) (h : i < l.length), l[i] = false → ((l.set i true).filter (· == false)).length + 1 = (l.filter (· == false)).length := by
      intro l
      induction l with
      | nil => intro i h; simp at h
      | cons x l ihl =>
        intro i h hx
        cases i with
        | zero => simp at hx; subst hx; simp
        | succ i =>
          have := ihl i (by simpa using h) (by simpa using hx)
          cases x <;> simp at this ⊢ <;> omega
    have := key listed.toList i (by simpa using hi2) (by simpa using hl)
    rw [Array.toList_setIfInBounds]
    omega

/-- which operations have been done -/
abbrev Done := Nat → Bool
def Done.add (L : Done) (i : Nat) : Done := fun j => if j = i then true else L j

/-- the facts: what each operation that has been done has yielded; what no operation done has written is as it was -/
structure Facts (ops : Array Oper) (a0 : Act) (V : Nat → Value → World → Prop) (L : Done) (a : Act) (w : World) : Prop where
  size : a.tmps.size = a0.tmps.size
  defers : a.defers = a0.defers
  out : ∀ j, ops.size ≤ j → L j = false
  closed : ∀ j o, ops[j]? = some o → L j = true → ∀ e ∈ o.after, Region.binds .any e = true → L e.on = true
  yields : ∀ j o d, ops[j]? = some o → L j = true → o.dst = some d → ∃ v, a.tmps[d]? = some v ∧ V j v w
  same : ∀ t, (∀ j o, ops[j]? = some o → L j = true → o.dst ≠ some t) → a.tmps[t]? = a0.tmps[t]?

/-- THE RULE. Each operation's own destination; no guards. -/
theorem wp_region_facts {id : Nat} {a0 : Act} {w0 : World} (hm : P.follows .mixedOrders = true)
    (hguard : ∀ (j : Nat) (o : Oper), ops[j]? = some o → o.guard = none) (hdst : ∀ (j : Nat) (o : Oper), ops[j]? = some o → ∃ d, o.dst = some d ∧ d < a0.tmps.size) (hdis : ∀ (j k : Nat) (o o' : Oper), ops[j]? = some o → ops[k]? = some o' → o.dst = o'.dst → j = k)
    (V : Nat → Value → World → Prop) (R : World → World → Prop) (hR : ∀ i v w w', V i v w → R w w' → V i v w')
    (G : Done → World → Prop) (hG0 : G (fun _ => false) { w0 with drawn := w0.drawn + 1 })
    (hstep : ∀ i o L a w, ops[i]? = some o → L i = false → (∀ e ∈ o.after, Region.binds .any e = true → L e.on = true) → Facts ops a0 V L a w → G L w →
      o.wp P a w (fun a' w' => ∃ v, a' = a.put o.dst v ∧ V i v w' ∧ R w w' ∧ G (L.add i) w') Q)
    (hend : ∀ a w L, (∀ j, j < ops.size → L j = true) → Facts ops a0 V L a w → G L w → Q .normal a w)
    (hord : ∀ (j : Nat) (o : Oper), ops[j]? = some o → ∀ e ∈ o.after, e.on < j) :
    (Code.region id ops true).wp P Q a0 w0 := by
  have hacyc : ∀ L : Done, (∃ j, j < ops.size ∧ L j = false) → ∃ i o, ops[i]? = some o ∧ L i = false ∧ ∀ e ∈ o.after, Region.binds .any e = true → L e.on = true := by
    intro L ⟨j, hj, hL⟩
    induction j using Nat.strongRecOn with
    | _ j ih =>
      by_cases h : ∃ k, k < j ∧ L k = false
      · obtain ⟨k, hk, hLk⟩ := h
        exact ih k hk (by omega) hLk
      · refine ⟨j, ops[j], Array.getElem?_eq_getElem hj, hL, fun e he _ => ?_⟩
        have hlt := hord j _ (Array.getElem?_eq_getElem hj) e he
        cases hc : L e.on with
        | true => rfl
        | false => exact absurd ⟨e.on, hlt, hc⟩ h
  refine wp_region_any hm ?_
  refine wpAny_inv (fun listed a w => listed.size = ops.size ∧ Facts ops a0 V (fun j => listed.getD j false) a w ∧ G (fun j => listed.getD j false) w) ?_ ?_ (fun _ _ _ h => h.1) ops.size _ _ _ ?_ ?_
  · intro listed a w i ⟨hsz, hF, hG⟩ hi
    simp only [Region.ready, List.mem_filter, List.mem_range, Bool.and_eq_true] at hi
    obtain ⟨hlt, h1, h2⟩ := hi
    have ho : ops[i]? = some ops[i] := Array.getElem?_eq_getElem hlt
    have hLi : listed.getD i false = false := by
      have : i < listed.size := by omega
      simpa [Array.getD, this] using h1
    have hdeps : ∀ e ∈ (ops[i]).after, Region.binds .any e = true → listed.getD e.on false = true := by
      rw [ho] at h2
      simp only [Option.map_some, Option.getD_some, Array.all_eq_true_iff_forall_mem] at h2
      intro e he hb
      have := h2 e he
      rw [hb] at this
      simpa using this
    unfold wpOp
    simp only [ho]
    rw [if_pos (by simp [Region.wanted, hguard i _ ho])]
    refine .inl (Oper.wp_mono ?_ (hstep i _ _ a w ho hLi hdeps hF hG))
    rintro a' w' ⟨v, rfl, hV, hRw, hG'⟩
    obtain ⟨d, hd, hdlt⟩ := hdst i _ ho
    have hset : (fun j => (listed.setIfInBounds i true).getD j false) = Done.add (fun j => listed.getD j false) i := by
      funext j
      unfold Done.add
      by_cases hj : j = i
      · subst hj
        have : j < listed.size := by omega
        simp [Array.getD, this]
      · simp only [if_neg hj, Array.getD_eq_getD_getElem?, Array.getElem?_setIfInBounds_ne (Ne.symm hj)]
    refine ⟨by simp [hsz], ?_, by rw [hset]; exact hG'⟩
    rw [hset]
    have hput : ∀ t, (a.put (ops[i]).dst v).tmps[t]? = if t = d then some v else a.tmps[t]? := by
      intro t
      rw [hd]
      simp only [Act.put]
      by_cases ht : t = d
      · subst ht
        rw [if_pos rfl, Array.getElem?_setIfInBounds_self_of_lt (by rw [hF.size]; exact hdlt)]
      · rw [if_neg ht, Array.getElem?_setIfInBounds_ne (Ne.symm ht)]
    refine ⟨?_, ?_, ?_, ?_, ?_, ?_⟩
    · rw [hd]; simp [Act.put, hF.size]
    · rw [hd]; exact hF.defers
    · intro j hj
      unfold Done.add
      rw [if_neg (by omega)]
      exact hF.out j hj
    · intro j o hj hL e he hb
      unfold Done.add at hL ⊢
      by_cases hji : j = i
      · subst hji
        rw [ho] at hj
        injection hj with hj
        subst hj
        split
        · rfl
        · exact hdeps e he hb
      · rw [if_neg hji] at hL
        split
        · rfl
        · exact hF.closed j o hj hL e he hb
    · intro j o d' hj hL hd'
      unfold Done.add at hL
      by_cases hji : j = i
      · subst hji
        rw [ho] at hj
        injection hj with hj
        subst hj
        rw [hd] at hd'
        injection hd' with hd'
        subst hd'
        exact ⟨v, by rw [hput, if_pos rfl], hV⟩
      · rw [if_neg hji] at hL
        obtain ⟨v', hv', hV'⟩ := hF.yields j o d' hj hL hd'
        refine ⟨v', ?_, hR _ _ _ _ hV' hRw⟩
        rw [hput, if_neg (fun e => hji (hdis j i o _ hj ho (by rw [hd', hd, e])))]
        exact hv'
    · intro t ht
      have htd : t ≠ d := fun e => ht i _ ho (by unfold Done.add; rw [if_pos rfl]) (by rw [hd, e])
      rw [hput, if_neg htd]
      refine hF.same t fun j o hj hL => ht j o hj ?_
      unfold Done.add
      split
      · rfl
      · exact hL
  · intro listed a w ⟨hsz, hF, hG⟩ hn
    refine hend a w _ (fun j hj => ?_) hF hG
    cases hc : listed.getD j false with
    | true => rfl
    | false =>
      obtain ⟨i, o, ho, hLi, hdeps⟩ := hacyc (fun j => listed.getD j false) ⟨j, hj, hc⟩
      have hlt : i < ops.size := (Array.getElem?_eq_some_iff.1 ho).1
      have : i ∈ Region.ready .any ops listed := by
        simp only [Region.ready, List.mem_filter, List.mem_range, Bool.and_eq_true]
        have hil : i < listed.size := by omega
        refine ⟨hlt, ?_, ?_⟩
        · have h' : listed.getD i false = false := hLi
          simpa [Array.getD, hil] using h'
        · rw [ho]
          simp only [Option.map_some, Option.getD_some, Array.all_eq_true_iff_forall_mem]
          intro e he
          cases hb : Region.binds .any e with
          | false => rfl
          | true => simpa using hdeps e he hb
      rw [hn] at this
      cases this
  · have : ((Array.replicate ops.size false).toList.filter (· == false)).length ≤ (Array.replicate ops.size false).toList.length := List.length_filter_le _ _
    refine Nat.le_trans this ?_
    simp
  · have hrep : (fun j => (Array.replicate ops.size false).getD j false) = fun _ => false := by
      funext j
      by_cases hj : j < ops.size <;> simp [Array.getD, hj]
    refine ⟨by simp, ?_, by rw [hrep]; exact hG0⟩
    rw [hrep]
    exact ⟨rfl, rfl, fun _ _ => rfl, fun _ _ _ h => by simp at h, fun _ _ _ _ h => by simp at h, fun _ _ => rfl⟩

def dstOf (ops : Array Oper) (i : Nat) : Option Tmp := (ops[i]?).bind fun o => o.dst
/-- the frame behind the first n operations -/
def frameOf (dst : Nat → Option Tmp) (y : Nat → Value) (a0 : Act) : Nat → Act
  | 0 => a0
  | n + 1 => (frameOf dst y a0 n).put (dst n) (y n)
theorem put_get (a : Act) (d : Option Tmp) (v : Value) (t : Nat) (hd : ∀ k, d = some k → k < a.tmps.size) : (a.put d v).tmps[t]? = if d = some t then some v else a.tmps[t]? := by
  cases d with
  | none => simp [Act.put]
  | some k =>
    have := hd k rfl
    simp only [Act.put]
    by_cases h : k = t
    · subst h; rw [Array.getElem?_setIfInBounds_self_of_lt this, if_pos rfl]
    · rw [Array.getElem?_setIfInBounds_ne h, if_neg (fun e => h (by injection e))]
theorem frameOf_size (dst : Nat → Option Tmp) (y : Nat → Value) (a0 : Act) : ∀ n, (frameOf dst y a0 n).tmps.size = a0.tmps.size ∧ (frameOf dst y a0 n).defers = a0.defers
  | 0 => ⟨rfl, rfl⟩
  | n + 1 => by
    have := frameOf_size dst y a0 n
    unfold frameOf
    cases dst n <;> simpa [Act.put] using this
theorem frameOf_get (dst : Nat → Option Tmp) (y : Nat → Value) (a0 : Act) (hd : ∀ i k, dst i = some k → k < a0.tmps.size) (hdis : ∀ i j t, dst i = some t → dst j = some t → i = j) (t : Nat) : ∀ n,
    ((∀ i, i < n → dst i ≠ some t) → (frameOf dst y a0 n).tmps[t]? = a0.tmps[t]?) ∧ (∀ i, i < n → dst i = some t → (frameOf dst y a0 n).tmps[t]? = some (y i))
  | 0 => ⟨fun _ => rfl, fun i h => by omega⟩
  | n + 1 => by
    have ih := frameOf_get dst y a0 hd hdis t n
    have hp := put_get (frameOf dst y a0 n) (dst n) (y n) t (fun k hk => by rw [(frameOf_size dst y a0 n).1]; exact hd n k hk)
    refine ⟨fun h => ?_, fun i hi he => ?_⟩
    · unfold frameOf
      rw [hp, if_neg (h n (by omega))]
      exact ih.1 fun i hi => h i (by omega)
    · unfold frameOf
      rw [hp]
      by_cases hin : i = n
      · subst hin; rw [if_pos he]
      · rw [if_neg (fun e => hin (hdis i n t he e))]
        exact ih.2 i (by omega) he
theorem Facts.frame {a0 : Act} {V : Nat → Value → World → Prop} {L : Done} {a : Act} {w : World} (h : Facts ops a0 V L a w) (hall : ∀ j, j < ops.size → L j = true)
    (hdst : ∀ (j : Nat) (o : Oper), ops[j]? = some o → ∃ d, o.dst = some d ∧ d < a0.tmps.size) (hdis : ∀ (j k : Nat) (o o' : Oper), ops[j]? = some o → ops[k]? = some o' → o.dst = o'.dst → j = k) :
    ∃ y : Nat → Value, a = frameOf (dstOf ops) y a0 ops.size ∧ ∀ i, i < ops.size → V i (y i) w := by
  have key : ∀ i, ∃ v, i < ops.size → (∃ d, dstOf ops i = some d ∧ a.tmps[d]? = some v) ∧ V i v w := by
    intro i
    by_cases hi : i < ops.size
    · have ho : ops[i]? = some ops[i] := Array.getElem?_eq_getElem hi
      obtain ⟨d, hd, _⟩ := hdst i _ ho
      obtain ⟨v, hv, hV⟩ := h.yields i _ d ho (hall i hi) hd
      exact ⟨v, fun _ => ⟨⟨d, by simp only [dstOf, ho, Option.bind_some]; exact hd, hv⟩, hV⟩⟩
    · exact ⟨undef, fun h => absurd h hi⟩
  obtain ⟨y, hy⟩ := Classical.axiomOfChoice key
  refine ⟨y, ?_, fun i hi => (hy i hi).2⟩
  have hd1 : ∀ i k, dstOf ops i = some k → k < a0.tmps.size := by
    intro i k hk
    cases ho : ops[i]? with
    | none => simp [dstOf, ho] at hk
    | some o =>
      simp only [dstOf, ho, Option.bind_some] at hk
      obtain ⟨d, hd, hlt⟩ := hdst i o ho
      have : o.dst = some k := hk
      rw [hd] at this; injection this with this; subst this; exact hlt
  have hd2 : ∀ i j t, dstOf ops i = some t → dstOf ops j = some t → i = j := by
    intro i j t h1 h2
    cases ho : ops[i]? with
    | none => simp [dstOf, ho] at h1
    | some o =>
      cases ho' : ops[j]? with
      | none => simp [dstOf, ho'] at h2
      | some o' =>
        simp only [dstOf, ho, Option.bind_some] at h1
        simp only [dstOf, ho', Option.bind_some] at h2
        exact hdis i j o o' ho ho' (by rw [h1, h2])
  have hs := frameOf_size (dstOf ops) y a0 ops.size
  obtain ⟨at0, ad0⟩ := a
  have e1 : at0 = (frameOf (dstOf ops) y a0 ops.size).tmps := by
    apply Array.ext_getElem?
    intro t
    have hg := frameOf_get (dstOf ops) y a0 hd1 hd2 t ops.size
    by_cases hex : ∃ i, i < ops.size ∧ dstOf ops i = some t
    · obtain ⟨i, hi, hdi⟩ := hex
      rw [hg.2 i hi hdi]
      obtain ⟨⟨d, hd, hv⟩, _⟩ := hy i hi
      rw [hdi] at hd
      injection hd with hd
      subst hd
      exact hv
    · rw [hg.1 fun i hi e => hex ⟨i, hi, e⟩]
      exact h.same t fun j o hj _ e => hex ⟨j, (Array.getElem?_eq_some_iff.1 hj).1, by simp only [dstOf, hj, Option.bind_some]; exact e⟩
  have e2 : ad0 = (frameOf (dstOf ops) y a0 ops.size).defers := by rw [hs.2]; exact h.defers
  cases hfr : frameOf (dstOf ops) y a0 ops.size with
  | mk t d => rw [hfr] at e1 e2; subst e1 e2; rfl

/-- the region's form: no guards; each operation a destination of its own; what it waits for stands ahead of it -/
def regionOk (ops : Array Oper) (n : Nat) : Bool := (List.range ops.size).all fun j => match ops[j]? with
  | none => true
  | some o => o.guard.isNone && (match o.dst with | none => false | some d => decide (d < n)) && (o.after.toList.all fun e => decide (e.on < j)) &&
      (List.range ops.size).all fun k => k == j || (match ops[k]? with | none => true | some o' => o'.dst != o.dst)
theorem regionOk_at {n : Nat} (h : regionOk ops n = true) (j : Nat) (o : Oper) (ho : ops[j]? = some o) :
    o.guard = none ∧ (∃ d, o.dst = some d ∧ d < n) ∧ (∀ e ∈ o.after, e.on < j) ∧ ∀ k o', ops[k]? = some o' → o.dst = o'.dst → j = k := by
  have hj : j < ops.size := (Array.getElem?_eq_some_iff.1 ho).1
  have h1 := List.all_eq_true.1 h j (List.mem_range.2 hj)
  simp only [ho, Bool.and_eq_true, Option.isNone_iff_eq_none] at h1
  obtain ⟨⟨⟨h1, h2⟩, h3⟩, h4⟩ := h1
  refine ⟨h1, ?_, ?_, ?_⟩
  · cases hd : o.dst with
    | none => rw [hd] at h2; cases h2
    | some d => rw [hd] at h2; exact ⟨d, rfl, of_decide_eq_true h2⟩
  · intro e he
    exact of_decide_eq_true (List.all_eq_true.1 h3 e (Array.mem_def.1 he))
  · intro k o' hk he
    have hk' : k < ops.size := (Array.getElem?_eq_some_iff.1 hk).1
    have h5 := List.all_eq_true.1 h4 k (List.mem_range.2 hk')
    simp only [hk, Bool.or_eq_true, beq_iff_eq] at h5
    rcases h5 with h5 | h5
    · exact h5.symm
    · rw [he] at h5; simp at h5
def dstFree (ops : Array Oper) (t : Tmp) (ex : List Nat) : Bool := (List.range ops.size).all fun j => ex.contains j || (match ops[j]? with | none => true | some o => o.dst != some t)
theorem Facts.keep {a0 : Act} {V : Nat → Value → World → Prop} {L : Done} {a : Act} {w : World} (h : Facts ops a0 V L a w) (t : Tmp) (ex : List Nat) (hc : dstFree ops t ex = true) (hex : ∀ j ∈ ex, L j = false) : a.tmps[t]? = a0.tmps[t]? := by
  refine h.same t fun j o ho hL he => ?_
  have hj : j < ops.size := (Array.getElem?_eq_some_iff.1 ho).1
  have h1 := List.all_eq_true.1 hc j (List.mem_range.2 hj)
  simp only [ho, Bool.or_eq_true, List.contains_iff_mem] at h1
  rcases h1 with h1 | h1
  · rw [hex j h1] at hL; cases hL
  · rw [he] at h1; simp at h1

/-- THE RULE, for a region of that form. -/
theorem wp_region_rule {id : Nat} {a0 : Act} {w0 : World} (V : Nat → Value → World → Prop) (R : World → World → Prop) (G : Done → World → Prop) (hm : P.follows .mixedOrders = true) (hok : regionOk ops a0.tmps.size = true)
    (hR : ∀ i v w w', V i v w → R w w' → V i v w') (hG0 : G (fun _ => false) { w0 with drawn := w0.drawn + 1 })
    (hstep : ∀ i o L a w, ops[i]? = some o → L i = false → (∀ e ∈ o.after, Region.binds .any e = true → L e.on = true) → Facts ops a0 V L a w → G L w →
      o.wp P a w (fun a' w' => ∃ v, a' = a.put o.dst v ∧ V i v w' ∧ R w w' ∧ G (L.add i) w') Q)
    (hend : ∀ y w L, (∀ j, j < ops.size → L j = true) → (∀ i, i < ops.size → V i (y i) w) → G L w → Q .normal (frameOf (dstOf ops) y a0 ops.size) w) :
    (Code.region id ops true).wp P Q a0 w0 := by
  have h1 := fun j o ho => (regionOk_at hok j o ho).1
  have h2 := fun j o ho => (regionOk_at hok j o ho).2.1
  have h3 := fun j o ho => (regionOk_at hok j o ho).2.2.1
  have h4 := fun j k o o' ho ho' => (regionOk_at hok j o ho).2.2.2 k o' ho'
  refine wp_region_facts hm h1 h2 h4 V R hR G hG0 hstep (fun a w L hall hF hG => ?_) h3
  obtain ⟨y, rfl, hy⟩ := hF.frame hall h2 h4
  exact hend y w L hall hy hG
end
end Go.Proofs.YtjkmmhnhhiopiaaDoor
