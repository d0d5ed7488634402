/-
 The package's reader of the text form, walked: a number.
-/
import Derived.Test.YtgdnpnipahegaaaGreatDoorTIdent
import Derived.Test.YtgdnpnipahegaaaGreatDoorSymT
namespace Go.Proofs.YtgdnpnipahegaaaGreatDoor
open Go.ChangeShapes Go.WideShapes Go.ChangeAt Go.RowKit

theorem isDg_yes {c : UInt8} (h : isDg c = true) : (48 : Int) ≤ c.toNat ∧ (c.toNat : Int) ≤ 57 := (isDg_iff c).1 h
theorem isDg_no {c : UInt8} (h : isDg c = false) : ¬ (48 : Int) ≤ c.toNat ∨ ((48 : Int) ≤ c.toNat ∧ ¬ (c.toNat : Int) ≤ 57) := by unfold isDg at h; simp at h; omega
theorem isOct_yes {c : UInt8} (h : isOct c = true) : (48 : Int) ≤ c.toNat ∧ (c.toNat : Int) ≤ 55 := by unfold isOct at h; simp at h; omega
theorem isOct_no {c : UInt8} (h : isOct c = false) : ¬ (48 : Int) ≤ c.toNat ∨ ((48 : Int) ≤ c.toNat ∧ ¬ (c.toNat : Int) ≤ 55) := by unfold isOct at h; simp at h; omega
theorem isHex_yes {c : UInt8} (h : isHex c = true) : ((48 : Int) ≤ c.toNat ∧ (c.toNat : Int) ≤ 57) ∨ ((48 : Int) ≤ c.toNat ∧ ¬ (c.toNat : Int) ≤ 57 ∧ (97 : Int) ≤ c.toNat ∧ (c.toNat : Int) ≤ 102) ∨ ((48 : Int) ≤ c.toNat ∧ ¬ (c.toNat : Int) ≤ 57 ∧ ¬ (97 : Int) ≤ c.toNat ∧ (65 : Int) ≤ c.toNat ∧ (c.toNat : Int) ≤ 70) := by unfold isHex at h; simp at h; omega
theorem isHex_no {c : UInt8} (h : isHex c = false) : (¬ (48 : Int) ≤ c.toNat ∧ ¬ (97 : Int) ≤ c.toNat ∧ ¬ (65 : Int) ≤ c.toNat) ∨ ((48 : Int) ≤ c.toNat ∧ ¬ (c.toNat : Int) ≤ 57 ∧ ¬ (97 : Int) ≤ c.toNat ∧ ¬ (65 : Int) ≤ c.toNat) ∨ ((48 : Int) ≤ c.toNat ∧ ¬ (c.toNat : Int) ≤ 57 ∧ ¬ (97 : Int) ≤ c.toNat ∧ (65 : Int) ≤ c.toNat ∧ ¬ (c.toNat : Int) ≤ 70) ∨ ((48 : Int) ≤ c.toNat ∧ ¬ (c.toNat : Int) ≤ 57 ∧ (97 : Int) ≤ c.toNat ∧ ¬ (c.toNat : Int) ≤ 102 ∧ (65 : Int) ≤ c.toNat ∧ ¬ (c.toNat : Int) ≤ 70) := by unfold isHex at h; simp at h; omega
def NumRes (o : Option NT) (w : World) (e : Ending) (w' : World) : Prop := e = .returned (numV o) ∧ Below w.heap.size w w'
def nAdd (neg : Bool) (sz sep : Nat) : Option (Nat × Nat) → Option NT
 | none => none
 | some (k, n) => some ⟨k, neg, sz + n, sep⟩
theorem numT_minus {c : UInt8} (r : List UInt8) (h : c.toNat = 45) : numT (c :: r) = nAdd true (1 + skT false r) (skT false r) (numB (r.drop (skT false r))) := by
 rw [numT_cons, if_pos h]
 rcases numB (r.drop (skT false r)) with _ | ⟨k, n⟩ <;> rfl
theorem numT_plain {c : UInt8} (r : List UInt8) (h : c.toNat ≠ 45) : numT (c :: r) = nAdd false 0 0 (numB (c :: r)) := by
 rw [numT_cons, if_neg h]
 rcases numB (c :: r) with _ | ⟨k, n⟩
 ·rfl
 ·simp [nAdd]
def ptB : List UInt8 → Bool
 | [] => false
 | c :: _ => c.toNat == 46
def exB : List UInt8 → Bool
 | c :: _ :: _ => isE c
 | _ => false
def sfB : List UInt8 → Bool
 | [] => false
 | c :: _ => isF c
theorem isE_iff (c : UInt8) : isE c = true ↔ c.toNat = 101 ∨ c.toNat = 69 := by unfold isE; simp
theorem isF_iff (c : UInt8) : isF c = true ↔ c.toNat = 102 ∨ c.toNat = 70 := by unfold isF; simp
theorem isPM_iff (c : UInt8) : isPM c = true ↔ c.toNat = 43 ∨ c.toNat = 45 := by unfold isPM; simp
theorem nRest_frac {kind n : Nat} {s : List UInt8} (h : nFrac kind s = none) : nRest kind n s = none := by unfold nRest; rw [h]
def nRest2 (n n1 k1 : Nat) (s : List UInt8) : Option (Nat × Nat) := match nExp k1 (s.drop n1) with
  | none => none
  | some (k2, n2) => if endT (s.drop (n1 + n2 + (nSuf k2 (s.drop (n1 + n2))).2)) then some ((nSuf k2 (s.drop (n1 + n2))).1, n + n1 + n2 + (nSuf k2 (s.drop (n1 + n2))).2) else none
theorem nRest_frac2 {kind n k1 n1 : Nat} {s : List UInt8} (h : nFrac kind s = some (k1, n1)) : nRest kind n s = nRest2 n n1 k1 s := by unfold nRest nRest2; rw [h]; rfl
def nRest3 (n m k2 : Nat) (s : List UInt8) : Option (Nat × Nat) := if endT (s.drop (m + (nSuf k2 (s.drop m)).2)) then some ((nSuf k2 (s.drop m)).1, n + m + (nSuf k2 (s.drop m)).2) else none
theorem nRest2_exp {n n1 k1 k2 n2 : Nat} {s : List UInt8} (h : nExp k1 (s.drop n1) = some (k2, n2)) : nRest2 n n1 k1 s = nRest3 n (n1 + n2) k2 s := by unfold nRest2 nRest3; rw [h]; simp only [Nat.add_assoc]
theorem nRest2_none {n n1 k1 : Nat} {s : List UInt8} (h : nExp k1 (s.drop n1) = none) : nRest2 n n1 k1 s = none := by unfold nRest2; rw [h]
theorem numB_no {c : UInt8} {l : List UInt8} (h1 : c.toNat ≠ 48) (h2 : ¬ (49 ≤ c.toNat ∧ c.toNat ≤ 57)) (h3 : c.toNat ≠ 46) : numB (c :: l) = none := by rw [numB_cons, if_neg h1, if_neg h2, if_neg h3]
theorem numB_dg {c : UInt8} (l : List UInt8) (h1 : 49 ≤ c.toNat) (h2 : c.toNat ≤ 57) : numB (c :: l) = nRest 0 (1 + runN isDg l) (l.drop (runN isDg l)) := by rw [numB_cons, if_neg (by omega), if_pos ⟨h1, h2⟩]
theorem numB_pt {c : UInt8} (l : List UInt8) (h1 : c.toNat = 46) : numB (c :: l) = nRest 4 0 (c :: l) := by rw [numB_cons, if_neg (by omega), if_neg (by omega), if_pos h1]
theorem numB_zero {c : UInt8} (h : c.toNat = 48) : numB [c] = nRest 0 1 [] := by rw [numB_cons, if_pos h]
def xB (d : UInt8) : Bool := d.toNat == 120 || d.toNat == 88
theorem xB_t {d : UInt8} (h : d.toNat = 120 ∨ d.toNat = 88) : xB d = true := by unfold xB; simpa using h
theorem xB_f {d : UInt8} (h : ¬ (d.toNat = 120 ∨ d.toNat = 88)) : xB d = false := by unfold xB; simpa using h
theorem isOct_of {c : UInt8} (h1 : 48 ≤ c.toNat) (h2 : c.toNat ≤ 55) : isOct c = true := by unfold isOct; simp; omega
theorem isOct_not {c : UInt8} (h : ¬ (48 ≤ c.toNat ∧ c.toNat ≤ 55)) : isOct c = false := by unfold isOct; simp; omega
theorem numB_two {c d : UInt8} {l : List UInt8} (h : c.toNat = 48) : numB (c :: d :: l) = if d.toNat = 120 ∨ d.toNat = 88 then nHex l else if isOct d then nOct l else nRest 0 1 (d :: l) := by rw [numB_cons, if_pos h]
theorem xB_iff {d : UInt8} (h : xB d = true) : d.toNat = 120 ∨ d.toNat = 88 := by unfold xB at h; simpa using h
theorem xB_not {d : UInt8} (h : xB d = false) : ¬ (d.toNat = 120 ∨ d.toNat = 88) := by unfold xB at h; simpa using h
theorem numB_zero2 {c d : UInt8} {l : List UInt8} (h : c.toNat = 48) (hx : xB d = false) (ho : isOct d = false) : numB (c :: d :: l) = nRest 0 1 (d :: l) := by rw [numB_two h, if_neg (xB_not hx), ho]; rfl
theorem numB_hex0 {c d : UInt8} {l : List UInt8} (h : c.toNat = 48) (hx : xB d = true) (hm : runN isHex l = 0) : numB (c :: d :: l) = none := by rw [numB_two h, if_pos (xB_iff hx)]; unfold nHex; rw [if_pos hm]
theorem numB_hex {c d : UInt8} {l : List UInt8} (h : c.toNat = 48) (hx : xB d = true) (hm : ¬ runN isHex l = 0) : numB (c :: d :: l) = if endT (l.drop (runN isHex l)) then some (1, 2 + runN isHex l) else none := by rw [numB_two h, if_pos (xB_iff hx)]; unfold nHex; rw [if_neg hm]
theorem numB_oct {c d : UInt8} {l : List UInt8} (h : c.toNat = 48) (hx : xB d = false) (ho : isOct d = true) : numB (c :: d :: l) = if endT (l.drop (runN isOct l)) then some (2, 2 + runN isOct l) else none := by rw [numB_two h, if_neg (xB_not hx), ho]; rfl
theorem endT_cons (c : UInt8) (l : List UInt8) : endT (c :: l) = delC c := rfl
theorem runN_cons_yes {p : UInt8 → Bool} {x : UInt8} (S : List UInt8) (h : p x = true) : runN p (x :: S) = runN p S + 1 := by rw [runN, if_pos h]
theorem runN_cons_no {p : UInt8 → Bool} {x : UInt8} (S : List UInt8) (h : p x = false) : runN p (x :: S) = 0 := by rw [runN, if_neg (by rw [h]; simp)]
theorem ptB_t {x : UInt8} (S : List UInt8) (h : x.toNat = 46) : ptB (x :: S) = true := by unfold ptB; simpa using h
theorem ptB_f {x : UInt8} (S : List UInt8) (h : x.toNat ≠ 46) : ptB (x :: S) = false := by unfold ptB; simpa using h
theorem ptB_cons {S : List UInt8} (h : ptB S = true) : ∃ x T, S = x :: T ∧ x.toNat = 46 := by
 cases S with
 | nil => cases h
 | cons x T => exact ⟨x, T, rfl, by unfold ptB at h; simpa using h⟩
theorem nFrac_no {K : Nat} {S : List UInt8} (h : ptB S = false) : nFrac K S = some (K, 0) := by
 cases S with
 | nil => rfl
 | cons x T => rw [nFrac_cons, if_neg (by unfold ptB at h; simpa using h)]
def efB (K : Nat) (S : List UInt8) : Bool := S.isEmpty && K == 4
theorem nFrac_yes {K : Nat} {x : UInt8} (S : List UInt8) (hx : x.toNat = 46) (hf : efB K S = false) : nFrac K (x :: S) = some (4, 1 + runN isDg S) := by
 rw [nFrac_cons, if_pos hx, if_neg]
 rintro ⟨rfl, rfl⟩
 cases hf
theorem nFrac_bad {K : Nat} {x : UInt8} (S : List UInt8) (hx : x.toNat = 46) (hf : efB K S = true) : nFrac K (x :: S) = none := by
 unfold efB at hf
 rw [nFrac_cons, if_pos hx, if_pos (by simpa using hf)]
theorem exB_t {x : UInt8} (y : UInt8) (T : List UInt8) (h : x.toNat = 101 ∨ x.toNat = 69) : exB (x :: y :: T) = true := (isE_iff x).2 h
theorem exB_f {x : UInt8} (y : UInt8) (T : List UInt8) (h : ¬ (x.toNat = 101 ∨ x.toNat = 69)) : exB (x :: y :: T) = false := by
 cases hb : isE x with
 | true => exact absurd ((isE_iff x).1 hb) h
 | false => exact hb
theorem exB_cons {T : List UInt8} (h : exB T = true) : ∃ x y U, T = x :: y :: U ∧ isE x = true := by
 rcases T with _ | ⟨x, _ | ⟨y, U⟩⟩
 ·cases h
 ·cases h
 ·exact ⟨x, y, U, rfl, h⟩
theorem nExp_no {k : Nat} {T : List UInt8} (h : exB T = false) : nExp k T = some (k, 0) := by
 rcases T with _ | ⟨x, _ | ⟨y, U⟩⟩
 ·rfl
 ·rfl
 ·rw [nExp_two, if_neg (by rw [show isE x = false from h]; simp)]
theorem isPM_t {y : UInt8} (h : y.toNat = 43 ∨ y.toNat = 45) : isPM y = true := (isPM_iff y).2 h
theorem isPM_f {y : UInt8} (h1 : y.toNat ≠ 43) (h2 : y.toNat ≠ 45) : isPM y = false := by
 cases hb : isPM y with
 | true => rcases (isPM_iff y).1 hb with h | h <;> omega
 | false => rfl
def ExpU (x y : UInt8) (T : List UInt8) (n : Nat) (U : List UInt8) : Prop := (isE x = true → ∀ k, nExp k (x :: y :: T) = some (4, n + runN isDg U)) ∧ (x :: y :: T).drop n = U
theorem expU_pm {x y : UInt8} {T : List UInt8} (h : isPM y = true) (hne : T ≠ []) : ExpU x y T 2 T := ⟨fun hx k => by rw [nExp_two, if_pos hx, if_pos h, if_neg hne], rfl⟩
theorem expU_no {x y : UInt8} {T : List UInt8} (h : isPM y = false) : ExpU x y T 1 (y :: T) := ⟨fun hx k => by rw [nExp_two, if_pos hx, if_neg (by rw [h]; simp)], rfl⟩
theorem nExp_yes {x y : UInt8} {T U : List UInt8} {n k : Nat} (hx : isE x = true) (h : ExpU x y T n U) : nExp k (x :: y :: T) = some (4, n + runN isDg U) := h.1 hx k
theorem exp_drop {x y : UInt8} {T U : List UInt8} {n : Nat} (h : ExpU x y T n U) (m : Nat) : (x :: y :: T).drop (n + m) = U.drop m := by rw [← h.2, List.drop_drop]
theorem nExp_bad {x y : UInt8} {k : Nat} (hx : isE x = true) (h : isPM y = true) : nExp k [x, y] = none := by rw [nExp_two, if_pos hx, if_pos h, if_pos rfl]
theorem sfB_t {x : UInt8} (S : List UInt8) (h : x.toNat = 102 ∨ x.toNat = 70) : sfB (x :: S) = true := (isF_iff x).2 h
theorem sfB_f {x : UInt8} (S : List UInt8) (h1 : x.toNat ≠ 102) (h2 : x.toNat ≠ 70) : sfB (x :: S) = false := by
 cases hb : isF x with
 | true => rcases (isF_iff x).1 hb with h | h <;> omega
 | false => exact hb
theorem sfB_cons {S : List UInt8} (h : sfB S = true) : ∃ x T, S = x :: T ∧ isF x = true := by
 cases S with
 | nil => cases h
 | cons x T => exact ⟨x, T, rfl, h⟩
theorem nSuf_no {k : Nat} {S : List UInt8} (h : sfB S = false) : nSuf k S = (k, 0) := by
 cases S with
 | nil => rfl
 | cons x T => rw [nSuf_cons, if_neg (by rw [show isF x = false from h]; simp)]
theorem nSuf_yes {k : Nat} {x : UInt8} (S : List UInt8) (h : isF x = true) : nSuf k (x :: S) = (4, 1) := by rw [nSuf_cons, if_pos h]
theorem num_end {neg : Bool} {sz sep K nn k1 n1 k2 n2 k3 n3 : Nat} {Z : Option NT} {L S T U V : List UInt8} (HN : Z = nAdd neg sz sep (numB L)) (HR : numB L = nRest K nn S) (hF : nFrac K S = some (k1, n1)) (hT : S.drop n1 = T)
  (hX : nExp k1 T = some (k2, n2)) (hU : T.drop n2 = U) (hS : nSuf k2 U = (k3, n3)) (hV : U.drop n3 = V) : Z = nAdd neg sz sep (if endT V then some (k3, nn + n1 + n2 + n3) else none) := by
 subst hT hU hV
 rw [HN, HR, nRest_frac2 hF, nRest2_exp hX]
 unfold nRest3
 rw [← List.drop_drop, ← List.drop_drop, hS]
 simp only [Nat.add_assoc]
theorem below_grow {B q : Nat} {w0 w1 w2 : World} (h : Below B w0 w1) (hg : w1.grownBy w2 (some q)) (hq : B ≤ q) (hB : B ≤ w1.heap.size) : Below B w0 w2 :=
 ⟨hg.os.trans h.os, hg.tape.trans h.tape, hg.output.trans h.output, Nat.le_trans h.size hg.size, fun k hk => (hg.block k (by omega) (fun e => by injection e with e; omega)).trans (h.block k hk)⟩
theorem num_ret {a : Act} {l : List (Nat × Value)} {w w2 : World} {k n s p : Value} {Z : Option NT} (H : Has 344 [] a l) (h2 : look l 2 = some (.pointer (some ⟨w.heap.size, 0, none⟩))) (hr : RowAt w2 w.heap.size [k, n, s, p]) (hb : Below w.heap.size w w2)
  (hz : (.agg #[k, n, s, p] : Value) = numV Z) : bodyPost Tryz.prog Tryz.f53 (NumRes Z w) .ret a w2 := by
 refine bodyPost_ret_by (results_cell1 (by rfl) _ _ w.heap.size [k, n, s, p] _ ?_ hr Tryz.underlying80 (by rfl) (by kernel_rfl)) H.defers ?_
 ·have := H.get 2 _ h2
  simp [this]
 ·exact ⟨by rw [← hz], hb⟩
set_option maxRecDepth 100000 in
set_option maxHeartbeats 100000000 in
theorem parseNumber_any (v : Value) (l : List UInt8) (g : Nat) (w : World) (hv : View w g v l) (hm : l.length ≤ 100000000) :
  Calls Tryz.prog 53 #[v] w (NumRes (numT l) w) := by
 suffices key : ∀ Z, Hid (numT l = Z) → Calls Tryz.prog 53 #[v] w (NumRes Z w) from key _ (hid rfl)
 intro Z HZ
 obtain ⟨w1, hw1⟩ : ∃ w1, w1 = w.alloc (.cells #[.int .u8 0, .bool false, .int .i64 0, .int .i64 0] 80) := ⟨_, rfl⟩
 have hb : Below w.heap.size w w1 := by rw [hw1]; exact (Below.refl _ w).alloc (Nat.le_refl _) _
 have hr : RowAt w1 w.heap.size [.int .u8 0, .bool false, .int .i64 0, .int .i64 0] := by rw [hw1]; exact rowAt_new (heap_alloc_new w _)
 have HB := hid hb
 have R0 := hid hr
 have hv1 := hv.below hb
 have HW := hid hw1
 clear hr hb hw1 hv
 cases l with
 | nil =>
  have hl0 : (([] : List UInt8)).length = 0 := rfl
  refine enter1 (M := 344) Tryz.func53 rfl rfl rfl fun a H => ?_
  refine y_seq fun K1 hK1 => ?_
  refine y_reg ?_
  refine y_alloc alloc_num H rfl fun a H => ?_
  rw [← HW.out]
  refine wpList_nil (then_normal (hK1 _ _ ?_))
  replace H := H.k2 0 2 rfl rfl
  refine y_seq fun K2 hK2 => ?_
  refine y_reg ?_
  refine y_assign H rfl rfl fun a H => wpList_nil (then_normal (hK2 _ _ ?_))
  replace H := H.k3 0 2 3 rfl rfl rfl
  refine y_seq fun K3 hK3 => ?_
  refine y_reg ?_
  refine y_assign H rfl rfl fun a H => wpList_nil (then_normal (hK3 _ _ ?_))
  replace H := H.k4 0 2 3 4 rfl rfl rfl rfl
  refine y_seq fun K4 hK4 => ?_
  refine y_reg ?_
  refine y_assign H rfl rfl fun a H => wpList_nil (then_normal (hK4 _ _ ?_))
  replace H := H.k5 0 2 3 4 5 rfl rfl rfl rfl rfl
  refine y_seq fun K5 hK5 => ?_
  refine y_reg ?_
  refine y_move H rfl rfl fun a H => y_assign H rfl rfl fun a H => wpList_nil (then_normal (hK5 _ _ ?_))
  replace H := H.k5 2 3 4 5 6 rfl rfl rfl rfl rfl
  refine y_seq fun K6 hK6 => ?_
  refine y_seq fun K7 hK7 => ?_
  refine y_reg ?_
  refine y_move H rfl rfl fun a H => y_len Tryz.underlying22 H rfl hv1 rfl fun a H => y_eql (b := true) H rfl rfl (ieq_t (by omega)) rfl fun a H => wpList_nil (then_normal (hK7 _ _ ?_))
  replace H := H.k6 2 3 4 5 6 17 rfl rfl rfl rfl rfl rfl
  refine y_ift H rfl ?_
  refine y_seq fun K8 hK8 => ?_
  refine y_reg ?_
  refine y_bld built_num0 H rfl rfl fun a H => y_storeRow (vs := [_, _, _, _]) H rfl rfl R0.out rfl (by kernel_rfl) (by simp [Value.oneCell']) fun w2 hr2 hg2 => ?_
  refine wpList_nil (then_normal (hK8 _ _ ?_))
  replace H := H.k5 2 3 4 5 6 rfl rfl rfl rfl rfl
  refine wp_ret (then_ret (?_))
  refine num_ret H rfl hr2 (below_grow HB.out hg2 (Nat.le_refl _) HB.out.size) ?_
  rw [show Z = none from by rw [← HZ.out] <;> rfl] <;> rfl
 | cons c l =>
  have hl0 : (c :: l).length = l.length + 1 := rfl
  have bc := byte_bd c
  refine enter1 (M := 344) Tryz.func53 rfl rfl rfl fun a H => ?_
  refine y_seq fun K9 hK9 => ?_
  refine y_reg ?_
  refine y_alloc alloc_num H rfl fun a H => ?_
  rw [← HW.out]
  refine wpList_nil (then_normal (hK9 _ _ ?_))
  replace H := H.k2 0 2 rfl rfl
  refine y_seq fun K10 hK10 => ?_
  refine y_reg ?_
  refine y_assign H rfl rfl fun a H => wpList_nil (then_normal (hK10 _ _ ?_))
  replace H := H.k3 0 2 3 rfl rfl rfl
  refine y_seq fun K11 hK11 => ?_
  refine y_reg ?_
  refine y_assign H rfl rfl fun a H => wpList_nil (then_normal (hK11 _ _ ?_))
  replace H := H.k4 0 2 3 4 rfl rfl rfl rfl
  refine y_seq fun K12 hK12 => ?_
  refine y_reg ?_
  refine y_assign H rfl rfl fun a H => wpList_nil (then_normal (hK12 _ _ ?_))
  replace H := H.k5 0 2 3 4 5 rfl rfl rfl rfl rfl
  refine y_seq fun K13 hK13 => ?_
  refine y_reg ?_
  refine y_move H rfl rfl fun a H => y_assign H rfl rfl fun a H => wpList_nil (then_normal (hK13 _ _ ?_))
  replace H := H.k5 2 3 4 5 6 rfl rfl rfl rfl rfl
  refine y_seq fun K14 hK14 => ?_
  refine y_seq fun K15 hK15 => ?_
  refine y_reg ?_
  refine y_move H rfl rfl fun a H => y_len Tryz.underlying22 H rfl hv1 rfl fun a H => y_eql (b := false) H rfl rfl (ieq_f (by omega)) rfl fun a H => wpList_nil (then_normal (hK15 _ _ ?_))
  replace H := H.k6 2 3 4 5 6 17 rfl rfl rfl rfl rfl rfl
  refine y_iff H rfl ?_
  refine wp_skip (then_normal (hK14 _ _ ?_))
  replace H := H.k5 2 3 4 5 6 rfl rfl rfl rfl rfl
  refine y_seq fun K16 hK16 => ?_
  refine y_reg ?_
  refine y_assign H rfl rfl fun a H => wpList_nil (then_normal (hK16 _ _ ?_))
  replace H := H.k6 2 3 4 5 6 7 rfl rfl rfl rfl rfl rfl
  refine y_seq fun K17 hK17 => ?_
  refine y_seq fun K18 hK18 => ?_
  refine y_reg ?_
  refine y_move H rfl rfl fun a H => y_idx Tryz.underlying22 info5u H rfl rfl hv1 (by decide) rfl rfl fun a ad H hc19 => ?_
  refine y_load one5 H rfl hc19 rfl fun a H => y_eql H rfl rfl rfl rfl fun a H => wpList_nil (then_normal (hK18 _ _ ?_))
  replace H := H.k7 2 3 4 5 6 7 22 rfl rfl rfl rfl rfl rfl rfl
  have hJ0 : ∀ (a : Act) (sz sep : Nat) (neg : Bool) (c1 : UInt8) (l1 : List UInt8) (v1 : Value), Has 344 [] a [(2, .pointer (some ⟨w.heap.size, 0, none⟩)), (3, .int .u8 0), (4, .int .i64 ((sz : Nat) : Int)), (5, .bool neg), (6, v1), (7, .int .i64 ((sep : Nat) : Int))] → View w1 g v1 (c1 :: l1) → sz + (l1.length + 1) ≤ 100000000 → Hid (Z = nAdd neg sz sep (numB (c1 :: l1))) → K17 a w1 := by
   intro a sz sep neg c1 l1 v1 H hv2 hsz HN
   refine hK17 _ _ ?_
   have hl1 : (c1 :: l1).length = l1.length + 1 := rfl
   have bc1 := byte_bd c1
   refine y_seq fun K20 hK20 => ?_
   have hJs : ∀ (a : Act) (K nn s2 : Nat) (S : List UInt8) (v2 : Value), Has 344 [] a [(2, .pointer (some ⟨w.heap.size, 0, none⟩)), (3, .int .u8 ((K : Nat) : Int)), (4, .int .i64 ((s2 : Nat) : Int)), (5, .bool neg), (6, v2), (7, .int .i64 ((sep : Nat) : Int))] → View w1 g v2 S → K = 0 ∨ K = 4 → s2 = sz + nn → nn + S.length ≤ l1.length + 1 → Hid (numB (c1 :: l1) = nRest K nn S) → K20 a w1 := by
    intro a K nn s2 S v2 H hv4 hK04 hs2 hS HR
    refine hK20 _ _ ?_
    refine y_seq fun K21 hK21 => ?_
    refine y_seq fun K22 hK22 => ?_
    have hJp : ∀ (a : Act), Has 344 [] a [(2, .pointer (some ⟨w.heap.size, 0, none⟩)), (3, .int .u8 ((K : Nat) : Int)), (4, .int .i64 ((s2 : Nat) : Int)), (5, .bool neg), (6, v2), (7, .int .i64 ((sep : Nat) : Int)), (219, .bool (ptB S))] → K22 a w1 := by
     intro a  H 
     refine hK22 _ _ ?_
     have hJf : ∀ (a : Act) (k1 n1 s3 : Nat) (T : List UInt8) (v3 : Value), Has 344 [] a [(2, .pointer (some ⟨w.heap.size, 0, none⟩)), (3, .int .u8 ((k1 : Nat) : Int)), (4, .int .i64 ((s3 : Nat) : Int)), (5, .bool neg), (6, v3), (7, .int .i64 ((sep : Nat) : Int))] → View w1 g v3 T → k1 ≤ 4 → s3 = s2 + n1 → n1 + T.length = S.length → Hid (nFrac K S = some (k1, n1) ∧ S.drop n1 = T) → K21 a w1 := by
      intro a k1 n1 s3 T v3 H hv5 hk1 hs3 hT HF
      refine hK21 _ _ ?_
      refine y_seq fun K23 hK23 => ?_
      refine y_seq fun K24 hK24 => ?_
      have hJq : ∀ (a : Act), Has 344 [] a [(2, .pointer (some ⟨w.heap.size, 0, none⟩)), (3, .int .u8 ((k1 : Nat) : Int)), (4, .int .i64 ((s3 : Nat) : Int)), (5, .bool neg), (6, v3), (7, .int .i64 ((sep : Nat) : Int)), (266, .bool (exB T))] → K24 a w1 := by
       intro a  H 
       refine hK24 _ _ ?_
       have hJg : ∀ (a : Act) (k2 n2 s4 : Nat) (U : List UInt8) (v4 : Value), Has 344 [] a [(2, .pointer (some ⟨w.heap.size, 0, none⟩)), (3, .int .u8 ((k2 : Nat) : Int)), (4, .int .i64 ((s4 : Nat) : Int)), (5, .bool neg), (6, v4), (7, .int .i64 ((sep : Nat) : Int))] → View w1 g v4 U → k2 ≤ 4 → s4 = s3 + n2 → n2 + U.length = T.length → Hid (nExp k1 T = some (k2, n2) ∧ T.drop n2 = U) → K23 a w1 := by
        intro a k2 n2 s4 U v4 H hv6 hk2 hs4 hU HX
        refine hK23 _ _ ?_
        refine y_seq fun K25 hK25 => ?_
        refine y_seq fun K26 hK26 => ?_
        have hJt : ∀ (a : Act), Has 344 [] a [(2, .pointer (some ⟨w.heap.size, 0, none⟩)), (3, .int .u8 ((k2 : Nat) : Int)), (4, .int .i64 ((s4 : Nat) : Int)), (5, .bool neg), (6, v4), (7, .int .i64 ((sep : Nat) : Int)), (323, .bool (sfB U))] → K26 a w1 := by
         intro a  H 
         refine hK26 _ _ ?_
         have hJh : ∀ (a : Act) (k3 n3 s5 : Nat) (V : List UInt8) (v6 : Value), Has 344 [] a [(2, .pointer (some ⟨w.heap.size, 0, none⟩)), (3, .int .u8 ((k3 : Nat) : Int)), (4, .int .i64 ((s5 : Nat) : Int)), (5, .bool neg), (6, v6), (7, .int .i64 ((sep : Nat) : Int))] → View w1 g v6 V → s5 = s4 + n3 → Hid (nSuf k2 U = (k3, n3) ∧ U.drop n3 = V) → K25 a w1 := by
          intro a k3 n3 s5 V v6 H hv8 hs5 HSF
          refine hK25 _ _ ?_
          refine y_seq fun K27 hK27 => ?_
          refine y_seq fun K28 hK28 => ?_
          have HEND := hid (num_end HN.out HR.out HF.out.1 HF.out.2 HX.out.1 HX.out.2 HSF.out.1 HSF.out.2)
          have hsz2 : sz + (nn + n1 + n2 + n3) = s5 := by omega
          have Hs29 := H
          rcases V with _ | ⟨x, V⟩
          ·have H := Hs29
           have hlE : (([] : List UInt8)).length = 0 := rfl
           refine y_reg ?_
           refine y_move H rfl rfl fun a H => y_len Tryz.underlying22 H rfl hv8 rfl fun a H => y_gtr (b := false) H rfl rfl (decide_eq_false (by omega)) rfl fun a H => y_move H rfl rfl fun a H => y_off H rfl rfl rfl fun a H => y_off H rfl rfl rfl fun a H => y_off H rfl rfl rfl fun a H => y_off H rfl rfl rfl fun a H => y_off H rfl rfl rfl fun a H => y_pick H rfl rfl rfl fun a H => wpList_nil (then_normal (hK28 _ _ ?_))
           replace H := H.k6 2 3 4 5 7 337 rfl rfl rfl rfl rfl rfl
           refine y_iff H rfl ?_
           refine wp_skip (then_normal (hK27 _ _ ?_))
           replace H := H.k5 2 3 4 5 7 rfl rfl rfl rfl rfl
           refine y_seq fun K30 hK30 => ?_
           refine y_reg ?_
           refine y_move H rfl rfl fun a H => y_move H rfl rfl fun a H => y_move H rfl rfl fun a H => y_move H rfl rfl fun a H => y_bld (built_num _ _ _ _) H rfl rfl fun a H => y_storeRow (vs := [_, _, _, _]) H rfl rfl R0.out rfl (by kernel_rfl) (by simp [Value.oneCell']) fun w2 hr2 hg2 => ?_
           refine wpList_nil (then_normal (hK30 _ _ ?_))
           replace H := H.sub [(2, _)] (sub_cons rfl (sub_nil))
           refine wp_ret (?_)
           refine num_ret H rfl hr2 (below_grow HB.out hg2 (Nat.le_refl _) HB.out.size) ?_
           rw [show Z = some ⟨k3, neg, s5, sep⟩ from by rw [HEND.out, ← hsz2] <;> rfl] <;> rfl
          ·have H := Hs29
           have hlE : (x :: V).length = V.length + 1 := rfl
           have Hs31 := H
           cases hde : delC x with
           | true =>
            have H := Hs31
            refine y_reg ?_
            refine y_move H rfl rfl fun a H => y_len Tryz.underlying22 H rfl hv8 rfl fun a H => y_gtr (b := true) H rfl rfl (decide_eq_true (by omega)) rfl fun a H => y_move H rfl rfl fun a H => y_on H rfl rfl ?_
            refine y_move H rfl rfl fun a H => y_on H rfl rfl ?_
            refine y_idx Tryz.underlying22 info5u H rfl rfl hv8 (by decide) rfl rfl fun a ad H hc32 => ?_
            refine y_on H rfl rfl ?_
            refine y_load one5 H rfl hc32 rfl fun a H => y_on H rfl rfl ?_
            refine y_call pf_isDelim H rfl rfl (Calls.mono (isDelim_any x w1) ?_)
            rintro e w2 ⟨rfl, rfl⟩
            rw [hde]
            refine ⟨_, rfl, fun a H => ?_⟩
            refine y_on H rfl rfl ?_
            refine y_not H rfl rfl fun a H => y_pick H rfl rfl rfl fun a H => wpList_nil (then_normal (hK28 _ _ ?_))
            replace H := H.k6 2 3 4 5 7 337 rfl rfl rfl rfl rfl rfl
            refine y_iff H rfl ?_
            refine wp_skip (then_normal (hK27 _ _ ?_))
            replace H := H.k5 2 3 4 5 7 rfl rfl rfl rfl rfl
            refine y_seq fun K33 hK33 => ?_
            refine y_reg ?_
            refine y_move H rfl rfl fun a H => y_move H rfl rfl fun a H => y_move H rfl rfl fun a H => y_move H rfl rfl fun a H => y_bld (built_num _ _ _ _) H rfl rfl fun a H => y_storeRow (vs := [_, _, _, _]) H rfl rfl R0.out rfl (by kernel_rfl) (by simp [Value.oneCell']) fun w2 hr2 hg2 => ?_
            refine wpList_nil (then_normal (hK33 _ _ ?_))
            replace H := H.sub [(2, _)] (sub_cons rfl (sub_nil))
            refine wp_ret (?_)
            refine num_ret H rfl hr2 (below_grow HB.out hg2 (Nat.le_refl _) HB.out.size) ?_
            rw [show Z = some ⟨k3, neg, s5, sep⟩ from by rw [HEND.out, ← hsz2, endT_cons, hde] <;> rfl] <;> rfl
           | false =>
            have H := Hs31
            refine y_reg ?_
            refine y_move H rfl rfl fun a H => y_len Tryz.underlying22 H rfl hv8 rfl fun a H => y_gtr (b := true) H rfl rfl (decide_eq_true (by omega)) rfl fun a H => y_move H rfl rfl fun a H => y_on H rfl rfl ?_
            refine y_move H rfl rfl fun a H => y_on H rfl rfl ?_
            refine y_idx Tryz.underlying22 info5u H rfl rfl hv8 (by decide) rfl rfl fun a ad H hc34 => ?_
            refine y_on H rfl rfl ?_
            refine y_load one5 H rfl hc34 rfl fun a H => y_on H rfl rfl ?_
            refine y_call pf_isDelim H rfl rfl (Calls.mono (isDelim_any x w1) ?_)
            rintro e w2 ⟨rfl, rfl⟩
            rw [hde]
            refine ⟨_, rfl, fun a H => ?_⟩
            refine y_on H rfl rfl ?_
            refine y_not H rfl rfl fun a H => y_pick H rfl rfl rfl fun a H => wpList_nil (then_normal (hK28 _ _ ?_))
            replace H := H.k6 2 3 4 5 7 337 rfl rfl rfl rfl rfl rfl
            refine y_ift H rfl ?_
            refine y_seq fun K35 hK35 => ?_
            refine y_reg ?_
            refine y_bld built_num0 H rfl rfl fun a H => y_storeRow (vs := [_, _, _, _]) H rfl rfl R0.out rfl (by kernel_rfl) (by simp [Value.oneCell']) fun w2 hr2 hg2 => ?_
            refine wpList_nil (then_normal (hK35 _ _ ?_))
            replace H := H.k5 2 3 4 5 7 rfl rfl rfl rfl rfl
            refine wp_ret (then_ret (?_))
            refine num_ret H rfl hr2 (below_grow HB.out hg2 (Nat.le_refl _) HB.out.size) ?_
            rw [show Z = none from by rw [HEND.out, endT_cons, hde] <;> rfl] <;> rfl
         have Hs36 := H
         cases hp : sfB U with
         | false =>
          have H := Hs36
          rw [hp] at H
          refine y_iff H rfl ?_
          exact wp_skip (then_normal (hJh _ _ 0 _ _ _ (H.sub _ (sub_cons rfl (sub_cons rfl (sub_cons rfl (sub_cons rfl (sub_cons rfl (sub_cons rfl (sub_nil)))))))) hv6 rfl (hid ⟨nSuf_no hp, rfl⟩)))
         | true =>
          have H := Hs36
          rw [hp] at H
          have Hs37 := H
          obtain ⟨x, U, rfl, hxf⟩ := sfB_cons hp
          have H := Hs37
          have hlU : (x :: U).length = U.length + 1 := rfl
          refine y_ift H rfl ?_
          refine y_seq fun K38 hK38 => ?_
          refine y_reg ?_
          refine y_assign H rfl rfl fun a H => wpList_nil (then_normal (hK38 _ _ ?_))
          replace H := H.k6 2 3 4 5 6 7 rfl rfl rfl rfl rfl rfl
          refine y_seq fun K39 hK39 => ?_
          refine y_reg ?_
          refine y_move H rfl rfl fun a H => y_from Tryz.underlying22 info5u H rfl rfl hv6 (by decide) (by first | omega | (simp; omega) | simp) rfl fun a v H hv40 => ?_
          replace hv40 : View _ _ v (U) := hv40
          refine y_assign H rfl rfl fun a H => wpList_nil (then_normal (hK39 _ _ ?_))
          replace H := H.k6 2 3 4 5 6 7 rfl rfl rfl rfl rfl rfl
          refine y_reg ?_
          refine y_move H rfl rfl fun a H => y_addi (r := ((s4 + 1 : Nat) : Int)) H rfl rfl (by omega) (by omega) (by omega) rfl fun a H => y_assign H rfl rfl fun a H => ?_
          exact wpList_nil (then_normal (hJh _ 4 1 _ _ _ (H.sub _ (sub_cons rfl (sub_cons rfl (sub_cons rfl (sub_cons rfl (sub_cons rfl (sub_cons rfl (sub_nil)))))))) hv40 rfl (hid ⟨nSuf_yes U hxf, rfl⟩)))
        have Hs41 := H
        rcases U with _ | ⟨x, U⟩
        ·have H := Hs41
         have hlE : (([] : List UInt8)).length = 0 := rfl
         refine y_reg ?_
         refine y_move H rfl rfl fun a H => y_len Tryz.underlying22 H rfl hv6 rfl fun a H => y_gtr (b := false) H rfl rfl (decide_eq_false (by omega)) rfl fun a H => y_move H rfl rfl fun a H => y_off H rfl rfl rfl fun a H => y_off H rfl rfl rfl fun a H => y_off H rfl rfl rfl fun a H => y_off H rfl rfl rfl fun a H => y_off H rfl rfl rfl fun a H => y_offu H rfl rfl rfl fun a H => y_offu H rfl rfl rfl fun a H => ?_
         refine y_offu H rfl rfl rfl fun a H => y_offu H rfl rfl rfl fun a H => y_off H rfl rfl rfl fun a H => y_pick H rfl rfl rfl fun a H => ?_
         exact wpList_nil (then_normal (hJt _ (by rw [show sfB [] = false from rfl]; exact H.sub _ (sub_cons rfl (sub_cons rfl (sub_cons rfl (sub_cons rfl (sub_cons rfl (sub_cons rfl (sub_cons rfl (sub_nil)))))))))))
        ·have H := Hs41
         have hlE : (x :: U).length = U.length + 1 := rfl
         have bxE := byte_bd x
         refine y_reg ?_
         refine y_move H rfl rfl fun a H => y_len Tryz.underlying22 H rfl hv6 rfl fun a H => y_gtr (b := true) H rfl rfl (decide_eq_true (by omega)) rfl fun a H => y_move H rfl rfl fun a H => y_on H rfl rfl ?_
         refine y_move H rfl rfl fun a H => y_on H rfl rfl ?_
         refine y_idx Tryz.underlying22 info5u H rfl rfl hv6 (by decide) rfl rfl fun a ad H hc42 => ?_
         refine y_on H rfl rfl ?_
         refine y_load one5 H rfl hc42 rfl fun a H => y_on H rfl rfl ?_
         by_cases q43 : ((x.toNat : Int)) = ((102 : Int))
         ·refine y_eql (b := true) H rfl rfl (ieq_t (by omega)) rfl fun a H => y_on H rfl rfl ?_
          refine y_move H rfl rfl fun a H => y_off H rfl rfl rfl fun a H => y_off H rfl rfl rfl fun a H => y_off H rfl rfl rfl fun a H => y_off H rfl rfl rfl fun a H => y_on H rfl rfl ?_
          refine y_pick H rfl rfl rfl fun a H => y_pick H rfl rfl rfl fun a H => ?_
          exact wpList_nil (then_normal (hJt _ (by rw [show sfB (x :: U) = true from sfB_t _ (by omega)]; exact H.sub _ (sub_cons rfl (sub_cons rfl (sub_cons rfl (sub_cons rfl (sub_cons rfl (sub_cons rfl (sub_cons rfl (sub_nil)))))))))))
         ·refine y_eql (b := false) H rfl rfl (ieq_f (by omega)) rfl fun a H => y_on H rfl rfl ?_
          refine y_move H rfl rfl fun a H => y_on H rfl rfl ?_
          refine y_move H rfl rfl fun a H => y_on H rfl rfl ?_
          refine y_idx Tryz.underlying22 info5u H rfl rfl hv6 (by decide) rfl rfl fun a ad H hc44 => ?_
          refine y_on H rfl rfl ?_
          refine y_load one5 H rfl hc44 rfl fun a H => y_on H rfl rfl ?_
          by_cases q45 : ((x.toNat : Int)) = ((70 : Int))
          ·refine y_eql (b := true) H rfl rfl (ieq_t (by omega)) rfl fun a H => y_on H rfl rfl ?_
           refine y_pick H rfl rfl rfl fun a H => y_pick H rfl rfl rfl fun a H => ?_
           exact wpList_nil (then_normal (hJt _ (by rw [show sfB (x :: U) = true from sfB_t _ (by omega)]; exact H.sub _ (sub_cons rfl (sub_cons rfl (sub_cons rfl (sub_cons rfl (sub_cons rfl (sub_cons rfl (sub_cons rfl (sub_nil)))))))))))
          ·refine y_eql (b := false) H rfl rfl (ieq_f (by omega)) rfl fun a H => y_on H rfl rfl ?_
           refine y_pick H rfl rfl rfl fun a H => y_pick H rfl rfl rfl fun a H => ?_
           exact wpList_nil (then_normal (hJt _ (by rw [show sfB (x :: U) = false from sfB_f _ (by omega) (by omega)]; exact H.sub _ (sub_cons rfl (sub_cons rfl (sub_cons rfl (sub_cons rfl (sub_cons rfl (sub_cons rfl (sub_cons rfl (sub_nil)))))))))))
       have Hs46 := H
       cases hp : exB T with
       | false =>
        have H := Hs46
        rw [hp] at H
        refine y_iff H rfl ?_
        exact wp_skip (then_normal (hJg _ _ 0 _ _ _ (H.sub _ (sub_cons rfl (sub_cons rfl (sub_cons rfl (sub_cons rfl (sub_cons rfl (sub_cons rfl (sub_nil)))))))) hv5 (by omega) rfl (by omega) (hid ⟨nExp_no hp, rfl⟩)))
       | true =>
        have H := Hs46
        rw [hp] at H
        have Hs47 := H
        obtain ⟨x, y, T, rfl, hxe⟩ := exB_cons hp
        have H := Hs47
        have hlT : (x :: y :: T).length = T.length + 2 := rfl
        have hlT2 : (y :: T).length = T.length + 1 := rfl
        have by_ := byte_bd y
        refine y_ift H rfl ?_
        refine y_seq fun K48 hK48 => ?_
        refine y_reg ?_
        refine y_assign H rfl rfl fun a H => wpList_nil (then_normal (hK48 _ _ ?_))
        replace H := H.k6 2 3 4 5 6 7 rfl rfl rfl rfl rfl rfl
        refine y_seq fun K49 hK49 => ?_
        refine y_reg ?_
        refine y_move H rfl rfl fun a H => y_from Tryz.underlying22 info5u H rfl rfl hv5 (by decide) (by first | omega | (simp; omega) | simp) rfl fun a v H hv50 => ?_
        replace hv50 : View _ _ v (y :: T) := hv50
        refine y_assign H rfl rfl fun a H => wpList_nil (then_normal (hK49 _ _ ?_))
        replace H := H.k6 2 3 4 5 6 7 rfl rfl rfl rfl rfl rfl
        refine y_seq fun K51 hK51 => ?_
        refine y_reg ?_
        refine y_assign H rfl rfl fun a H => wpList_nil (then_normal (hK51 _ _ ?_))
        replace H := H.k7 2 3 4 5 6 7 13 rfl rfl rfl rfl rfl rfl rfl
        refine y_seq fun K52 hK52 => ?_
        refine y_seq fun K53 hK53 => ?_
        have hJm : ∀ (a : Act), Has 344 [] a [(2, .pointer (some ⟨w.heap.size, 0, none⟩)), (3, .int .u8 4), (4, .int .i64 ((s3 : Nat) : Int)), (5, .bool neg), (6, v), (7, .int .i64 ((sep : Nat) : Int)), (13, .int .i64 1), (278, .bool (isPM y))] → K53 a w1 := by
         intro a  H 
         refine hK53 _ _ ?_
         have hJn : ∀ (a : Act) (n5 : Nat) (U : List UInt8) (v5 : Value), Has 344 [] a [(2, .pointer (some ⟨w.heap.size, 0, none⟩)), (3, .int .u8 4), (4, .int .i64 ((s3 : Nat) : Int)), (5, .bool neg), (6, v5), (7, .int .i64 ((sep : Nat) : Int)), (13, .int .i64 ((n5 : Nat) : Int))] → View w1 g v5 U → n5 ≤ 2 → n5 + U.length = T.length + 2 → Hid (ExpU x y T n5 U) → K52 a w1 := by
          intro a n5 U v5 H hv7 hn5 hlU HU
          refine hK52 _ _ ?_
          refine y_seq fun K54 hK54 => ?_
          have hrl55 := runN_le isDg (U)
          have hJ55 : ∀ (a : Act) (v : Value), Has 344 [] a [(2, .pointer (some ⟨w.heap.size, 0, none⟩)), (3, .int .u8 4), (4, .int .i64 ((s3 : Nat) : Int)), (5, .bool neg), (7, .int .i64 ((sep : Nat) : Int)), (6, v), (13, .int .i64 ((n5 + runN isDg (U) : Nat) : Int))] → View w1 g v ((U).drop (runN isDg (U))) → K54 a w1 := by
           intro a v H hv55
           refine hK54 _ _ ?_
           refine y_reg ?_
           refine y_move H rfl rfl fun a H => y_move H rfl rfl fun a H => y_addi (r := ((s3 + (n5 + runN isDg (U)) : Nat) : Int)) H rfl rfl (by omega) (by omega) (by omega) rfl fun a H => y_assign H rfl rfl fun a H => ?_
           exact wpList_nil (then_normal (hJg _ 4 _ _ _ _ (H.sub _ (sub_cons rfl (sub_cons rfl (sub_cons rfl (sub_cons rfl (sub_cons rfl (sub_cons rfl (sub_nil)))))))) hv55 (by omega) rfl (by have := List.length_drop (i := runN isDg U) (l := U); have := runN_le isDg U; omega) (hid ⟨nExp_yes hxe HU.out, exp_drop HU.out _⟩)))
          refine wp_block ?_
          refine wp_loop (fun a wx => ∃ (nL : Nat) (SL : List UInt8) (vL : Value), Has 344 [] a [(2, .pointer (some ⟨w.heap.size, 0, none⟩)), (3, .int .u8 4), (4, .int .i64 ((s3 : Nat) : Int)), (5, .bool neg), (7, .int .i64 ((sep : Nat) : Int)), (6, vL), (13, .int .i64 ((n5 + nL : Nat) : Int))] ∧ View w1 g vL SL ∧ nL + runN isDg SL = runN isDg (U) ∧ SL.drop (runN isDg SL) = (U).drop (runN isDg (U)) ∧ nL + SL.length = (U).length ∧ wx = w1) (fun a _ => n5 + (U).length - (intOf (a.eval (.tmp 13))).toNat) ?_ ?_
          ·exact ⟨0, _, _, H.sub _ (sub_cons rfl (sub_cons rfl (sub_cons rfl (sub_cons rfl (sub_cons rfl (sub_cons rfl (sub_cons rfl (sub_nil)))))))), hv7, by simp, rfl, by simp, rfl⟩
          ·rintro a wx ⟨nL, SL, vL, H, hvS, hn, hd, hl, rfl⟩
           have HE := hid (H.ev (x := .tmp 13) rfl)
           have Hs56 := H
           rcases SL with _ | ⟨xL, SL⟩
           ·have H := Hs56
            have hl0 : (([] : List UInt8)).length = 0 := rfl
            have hn0 : nL = runN isDg (U) := by have h0 : runN isDg [] = 0 := rfl; omega
            rw [hn0] at H
            refine y_seq fun K57 hK57 => ?_
            refine y_seq fun K58 hK58 => ?_
            refine y_reg ?_
            refine y_move H rfl rfl fun a H => y_len Tryz.underlying22 H rfl hvS rfl fun a H => y_gtr (b := false) H rfl rfl (decide_eq_false (by omega)) rfl fun a H => y_move H rfl rfl fun a H => y_off H rfl rfl rfl fun a H => y_off H rfl rfl rfl fun a H => y_off H rfl rfl rfl fun a H => y_off H rfl rfl rfl fun a H => y_pick H rfl rfl rfl fun a H => y_move H rfl rfl fun a H => y_off H rfl rfl rfl fun a H => ?_
            refine y_off H rfl rfl rfl fun a H => y_off H rfl rfl rfl fun a H => y_off H rfl rfl rfl fun a H => y_pick H rfl rfl rfl fun a H => wpList_nil (then_normal (hK58 _ _ ?_))
            replace H := H.k8 2 3 4 5 6 7 13 301 rfl rfl rfl rfl rfl rfl rfl rfl
            refine y_iff H rfl ?_
            exact wp_exit (then_exit (then_exit (in_exit (then_normal (hJ55 _ _ (H.sub _ (sub_cons rfl (sub_cons rfl (sub_cons rfl (sub_cons rfl (sub_cons rfl (sub_cons rfl (sub_cons rfl (sub_nil))))))))) (by rw [← hd]; exact hvS))))))
           ·have H := Hs56
            have hlx : (xL :: SL).length = SL.length + 1 := rfl
            have bx := byte_bd xL
            have Hs59 := H
            cases hp : isDg xL with
            | true =>
             have H := Hs59
             have hq := isDg_yes hp
             refine y_seq fun K60 hK60 => ?_
             refine y_seq fun K61 hK61 => ?_
             refine y_reg ?_
             refine y_move H rfl rfl fun a H => y_len Tryz.underlying22 H rfl hvS rfl fun a H => y_gtr (b := true) H rfl rfl (decide_eq_true (by omega)) rfl fun a H => y_move H rfl rfl fun a H => y_on H rfl rfl ?_
             refine y_move H rfl rfl fun a H => y_on H rfl rfl ?_
             refine y_idx Tryz.underlying22 info5u H rfl rfl hvS (by decide) rfl rfl fun a ad H hc62 => ?_
             refine y_on H rfl rfl ?_
             refine y_load one5 H rfl hc62 rfl fun a H => y_on H rfl rfl ?_
             refine y_leq (b := true) H rfl rfl (decide_eq_true (by omega)) rfl fun a H => y_pick H rfl rfl rfl fun a H => y_move H rfl rfl fun a H => y_on H rfl rfl ?_
             refine y_move H rfl rfl fun a H => y_on H rfl rfl ?_
             refine y_idx Tryz.underlying22 info5u H rfl rfl hvS (by decide) rfl rfl fun a ad H hc63 => ?_
             refine y_on H rfl rfl ?_
             refine y_load one5 H rfl hc63 rfl fun a H => y_on H rfl rfl ?_
             refine y_leq (b := true) H rfl rfl (decide_eq_true (by omega)) rfl fun a H => y_pick H rfl rfl rfl fun a H => wpList_nil (then_normal (hK61 _ _ ?_))
             replace H := H.k8 2 3 4 5 6 7 13 301 rfl rfl rfl rfl rfl rfl rfl rfl
             refine y_ift H rfl ?_
             refine wp_skip (then_normal (hK60 _ _ ?_))
             replace H := H.k7 2 3 4 5 6 7 13 rfl rfl rfl rfl rfl rfl rfl
             refine wp_block ?_
             refine y_seq fun K64 hK64 => ?_
             refine y_reg ?_
             refine y_move H rfl rfl fun a H => y_from Tryz.underlying22 info5u H rfl rfl hvS (by decide) (by first | omega | (simp; omega) | simp) rfl fun a v H hv65 => ?_
             replace hv65 : View _ _ v (SL) := hv65
             refine y_assign H rfl rfl fun a H => wpList_nil (then_normal (hK64 _ _ ?_))
             replace H := H.k7 2 3 4 5 6 7 13 rfl rfl rfl rfl rfl rfl rfl
             refine y_reg ?_
             refine y_move H rfl rfl fun a H => y_addi (r := (((n5 + nL) + 1 : Nat) : Int)) H rfl rfl (by omega) (by omega) (by omega) rfl fun a H => y_assign H rfl rfl fun a H => wpList_nil (in_normal (then_normal (⟨⟨nL + 1, SL, _, H.sub _ (sub_cons rfl (sub_cons rfl (sub_cons rfl (sub_cons rfl (sub_cons rfl (sub_cons rfl (sub_cons rfl (sub_nil)))))))), hv65, ?_, ?_, by omega, rfl⟩, ?_⟩)))
             ·have := runN_cons_yes SL hp; omega
             ·rw [← hd, runN_cons_yes SL hp] <;> rfl
             ·have h2 := H.ev (x := .tmp 13) rfl
              simp only [HE.out, h2, intOf]
              omega
            | false =>
             have H := Hs59
             have hq := isDg_no hp
             have hn0 : nL = runN isDg (U) := by have h0 := runN_cons_no SL hp; omega
             rw [hn0] at H
             refine y_seq fun K66 hK66 => ?_
             refine y_seq fun K67 hK67 => ?_
             refine y_reg ?_
             refine y_move H rfl rfl fun a H => y_len Tryz.underlying22 H rfl hvS rfl fun a H => y_gtr (b := true) H rfl rfl (decide_eq_true (by omega)) rfl fun a H => y_move H rfl rfl fun a H => y_on H rfl rfl ?_
             refine y_move H rfl rfl fun a H => y_on H rfl rfl ?_
             refine y_idx Tryz.underlying22 info5u H rfl rfl hvS (by decide) rfl rfl fun a ad H hc68 => ?_
             refine y_on H rfl rfl ?_
             refine y_load one5 H rfl hc68 rfl fun a H => y_on H rfl rfl ?_
             by_cases q69 : ((48 : Int)) ≤ ((xL.toNat : Int))
             ·refine y_leq (b := true) H rfl rfl (decide_eq_true (by omega)) rfl fun a H => y_pick H rfl rfl rfl fun a H => y_move H rfl rfl fun a H => y_on H rfl rfl ?_
              refine y_move H rfl rfl fun a H => y_on H rfl rfl ?_
              refine y_idx Tryz.underlying22 info5u H rfl rfl hvS (by decide) rfl rfl fun a ad H hc70 => ?_
              refine y_on H rfl rfl ?_
              refine y_load one5 H rfl hc70 rfl fun a H => y_on H rfl rfl ?_
              refine y_leq (b := false) H rfl rfl (decide_eq_false (by omega)) rfl fun a H => y_pick H rfl rfl rfl fun a H => wpList_nil (then_normal (hK67 _ _ ?_))
              replace H := H.k8 2 3 4 5 6 7 13 301 rfl rfl rfl rfl rfl rfl rfl rfl
              refine y_iff H rfl ?_
              exact wp_exit (then_exit (then_exit (in_exit (then_normal (hJ55 _ _ (H.sub _ (sub_cons rfl (sub_cons rfl (sub_cons rfl (sub_cons rfl (sub_cons rfl (sub_cons rfl (sub_cons rfl (sub_nil))))))))) (by rw [← hd, runN_cons_no SL hp]; exact hvS))))))
             ·refine y_leq (b := false) H rfl rfl (decide_eq_false (by omega)) rfl fun a H => y_pick H rfl rfl rfl fun a H => y_move H rfl rfl fun a H => y_off H rfl rfl rfl fun a H => y_off H rfl rfl rfl fun a H => y_off H rfl rfl rfl fun a H => y_off H rfl rfl rfl fun a H => y_pick H rfl rfl rfl fun a H => wpList_nil (then_normal (hK67 _ _ ?_))
              replace H := H.k8 2 3 4 5 6 7 13 301 rfl rfl rfl rfl rfl rfl rfl rfl
              refine y_iff H rfl ?_
              exact wp_exit (then_exit (then_exit (in_exit (then_normal (hJ55 _ _ (H.sub _ (sub_cons rfl (sub_cons rfl (sub_cons rfl (sub_cons rfl (sub_cons rfl (sub_cons rfl (sub_cons rfl (sub_nil))))))))) (by rw [← hd, runN_cons_no SL hp]; exact hvS))))))
         have Hs71 := H
         cases hpm : isPM y with
         | true =>
          have H := Hs71
          rw [hpm] at H
          refine y_ift H rfl ?_
          refine y_seq fun K72 hK72 => ?_
          refine y_reg ?_
          refine y_move H rfl rfl fun a H => y_from Tryz.underlying22 info5u H rfl rfl hv50 (by decide) (by first | omega | (simp; omega) | simp) rfl fun a v H hv73 => ?_
          replace hv73 : View _ _ v (T) := hv73
          refine y_assign H rfl rfl fun a H => wpList_nil (then_normal (hK72 _ _ ?_))
          replace H := H.k7 2 3 4 5 6 7 13 rfl rfl rfl rfl rfl rfl rfl
          refine y_seq fun K74 hK74 => ?_
          refine y_reg ?_
          refine y_move H rfl rfl fun a H => y_addi (r := ((1 + 1 : Nat) : Int)) H rfl rfl (by omega) (by omega) (by omega) rfl fun a H => y_assign H rfl rfl fun a H => wpList_nil (then_normal (hK74 _ _ ?_))
          replace H := H.k7 2 3 4 5 6 7 13 rfl rfl rfl rfl rfl rfl rfl
          refine y_seq fun K75 hK75 => ?_
          have Hs76 := H
          rcases T with _ | ⟨z, T⟩
          ·have H := Hs76
           have hlE : (([] : List UInt8)).length = 0 := rfl
           refine y_reg ?_
           refine y_move H rfl rfl fun a H => y_len Tryz.underlying22 H rfl hv73 rfl fun a H => y_eql (b := true) H rfl rfl (ieq_t (by omega)) rfl fun a H => wpList_nil (then_normal (hK75 _ _ ?_))
           replace H := H.k8 2 3 4 5 6 7 13 285 rfl rfl rfl rfl rfl rfl rfl rfl
           refine y_ift H rfl ?_
           refine y_seq fun K77 hK77 => ?_
           refine y_reg ?_
           refine y_bld built_num0 H rfl rfl fun a H => y_storeRow (vs := [_, _, _, _]) H rfl rfl R0.out rfl (by kernel_rfl) (by simp [Value.oneCell']) fun w2 hr2 hg2 => ?_
           refine wpList_nil (then_normal (hK77 _ _ ?_))
           replace H := H.k7 2 3 4 5 6 7 13 rfl rfl rfl rfl rfl rfl rfl
           refine wp_ret (then_ret (then_ret (?_)))
           refine num_ret H rfl hr2 (below_grow HB.out hg2 (Nat.le_refl _) HB.out.size) ?_
           rw [show Z = none from by rw [HN.out, HR.out, nRest_frac2 HF.out.1, nRest2_none (by rw [HF.out.2]; exact nExp_bad hxe hpm)] <;> rfl] <;> rfl
          ·have H := Hs76
           have hlE : (z :: T).length = T.length + 1 := rfl
           have hne : z :: T ≠ [] := by simp
           refine y_reg ?_
           refine y_move H rfl rfl fun a H => y_len Tryz.underlying22 H rfl hv73 rfl fun a H => y_eql (b := false) H rfl rfl (ieq_f (by omega)) rfl fun a H => wpList_nil (then_normal (hK75 _ _ ?_))
           replace H := H.k8 2 3 4 5 6 7 13 285 rfl rfl rfl rfl rfl rfl rfl rfl
           refine y_iff H rfl ?_
           exact wp_skip (then_normal (hJn _ 2 _ _ (H.sub _ (sub_cons rfl (sub_cons rfl (sub_cons rfl (sub_cons rfl (sub_cons rfl (sub_cons rfl (sub_cons rfl (sub_nil))))))))) hv73 (by omega) (by omega) (hid (expU_pm hpm hne))))
         | false =>
          have H := Hs71
          rw [hpm] at H
          refine y_iff H rfl ?_
          exact wp_skip (then_normal (hJn _ 1 _ _ (H.sub _ (sub_cons rfl (sub_cons rfl (sub_cons rfl (sub_cons rfl (sub_cons rfl (sub_cons rfl (sub_cons rfl (sub_nil))))))))) hv50 (by omega) (by omega) (hid (expU_no hpm))))
        refine y_reg ?_
        refine y_move H rfl rfl fun a H => y_idx Tryz.underlying22 info5u H rfl rfl hv50 (by decide) rfl rfl fun a ad H hc78 => ?_
        refine y_load one5 H rfl hc78 rfl fun a H => ?_
        by_cases q79 : ((y.toNat : Int)) = ((43 : Int))
        ·refine y_eql (b := true) H rfl rfl (ieq_t (by omega)) rfl fun a H => y_move H rfl rfl fun a H => y_off H rfl rfl rfl fun a H => y_off H rfl rfl rfl fun a H => y_off H rfl rfl rfl fun a H => y_off H rfl rfl rfl fun a H => y_pick H rfl rfl rfl fun a H => ?_
         exact wpList_nil (then_normal (hJm _ (by rw [show isPM y = true from isPM_t (by omega)]; exact H.sub _ (sub_cons rfl (sub_cons rfl (sub_cons rfl (sub_cons rfl (sub_cons rfl (sub_cons rfl (sub_cons rfl (sub_cons rfl (sub_nil))))))))))))
        ·refine y_eql (b := false) H rfl rfl (ieq_f (by omega)) rfl fun a H => y_move H rfl rfl fun a H => y_on H rfl rfl ?_
         refine y_move H rfl rfl fun a H => y_on H rfl rfl ?_
         refine y_idx Tryz.underlying22 info5u H rfl rfl hv50 (by decide) rfl rfl fun a ad H hc80 => ?_
         refine y_on H rfl rfl ?_
         refine y_load one5 H rfl hc80 rfl fun a H => y_on H rfl rfl ?_
         by_cases q81 : ((y.toNat : Int)) = ((45 : Int))
         ·refine y_eql (b := true) H rfl rfl (ieq_t (by omega)) rfl fun a H => y_pick H rfl rfl rfl fun a H => ?_
          exact wpList_nil (then_normal (hJm _ (by rw [show isPM y = true from isPM_t (by omega)]; exact H.sub _ (sub_cons rfl (sub_cons rfl (sub_cons rfl (sub_cons rfl (sub_cons rfl (sub_cons rfl (sub_cons rfl (sub_cons rfl (sub_nil))))))))))))
         ·refine y_eql (b := false) H rfl rfl (ieq_f (by omega)) rfl fun a H => y_pick H rfl rfl rfl fun a H => ?_
          exact wpList_nil (then_normal (hJm _ (by rw [show isPM y = false from isPM_f (by omega) (by omega)]; exact H.sub _ (sub_cons rfl (sub_cons rfl (sub_cons rfl (sub_cons rfl (sub_cons rfl (sub_cons rfl (sub_cons rfl (sub_cons rfl (sub_nil))))))))))))
      have Hs82 := H
      rcases T with _ | ⟨x, T⟩
      ·have H := Hs82
       have hlE : (([] : List UInt8)).length = 0 := rfl
       refine y_reg ?_
       refine y_move H rfl rfl fun a H => y_len Tryz.underlying22 H rfl hv5 rfl fun a H => y_geq (b := false) H rfl rfl (decide_eq_false (by omega)) rfl fun a H => y_move H rfl rfl fun a H => y_off H rfl rfl rfl fun a H => y_off H rfl rfl rfl fun a H => y_off H rfl rfl rfl fun a H => y_off H rfl rfl rfl fun a H => y_off H rfl rfl rfl fun a H => y_offu H rfl rfl rfl fun a H => y_offu H rfl rfl rfl fun a H => ?_
       refine y_offu H rfl rfl rfl fun a H => y_offu H rfl rfl rfl fun a H => y_off H rfl rfl rfl fun a H => y_pick H rfl rfl rfl fun a H => ?_
       exact wpList_nil (then_normal (hJq _ (by rw [show exB [] = false from rfl]; exact H.sub _ (sub_cons rfl (sub_cons rfl (sub_cons rfl (sub_cons rfl (sub_cons rfl (sub_cons rfl (sub_cons rfl (sub_nil)))))))))))
      ·have H := Hs82
       have Hs83 := H
       rcases T with _ | ⟨y, T⟩
       ·have H := Hs83
        have hlE : [x].length = 1 := rfl
        refine y_reg ?_
        refine y_move H rfl rfl fun a H => y_len Tryz.underlying22 H rfl hv5 rfl fun a H => y_geq (b := false) H rfl rfl (decide_eq_false (by omega)) rfl fun a H => y_move H rfl rfl fun a H => y_off H rfl rfl rfl fun a H => y_off H rfl rfl rfl fun a H => y_off H rfl rfl rfl fun a H => y_off H rfl rfl rfl fun a H => y_off H rfl rfl rfl fun a H => y_offu H rfl rfl rfl fun a H => y_offu H rfl rfl rfl fun a H => ?_
        refine y_offu H rfl rfl rfl fun a H => y_offu H rfl rfl rfl fun a H => y_off H rfl rfl rfl fun a H => y_pick H rfl rfl rfl fun a H => ?_
        exact wpList_nil (then_normal (hJq _ (by rw [show exB [x] = false from rfl]; exact H.sub _ (sub_cons rfl (sub_cons rfl (sub_cons rfl (sub_cons rfl (sub_cons rfl (sub_cons rfl (sub_cons rfl (sub_nil)))))))))))
       ·have H := Hs83
        have hlE : (x :: y :: T).length = T.length + 2 := rfl
        have bxE := byte_bd x
        refine y_reg ?_
        refine y_move H rfl rfl fun a H => y_len Tryz.underlying22 H rfl hv5 rfl fun a H => y_geq (b := true) H rfl rfl (decide_eq_true (by omega)) rfl fun a H => y_move H rfl rfl fun a H => y_on H rfl rfl ?_
        refine y_move H rfl rfl fun a H => y_on H rfl rfl ?_
        refine y_idx Tryz.underlying22 info5u H rfl rfl hv5 (by decide) rfl rfl fun a ad H hc84 => ?_
        refine y_on H rfl rfl ?_
        refine y_load one5 H rfl hc84 rfl fun a H => y_on H rfl rfl ?_
        by_cases q85 : ((x.toNat : Int)) = ((101 : Int))
        ·refine y_eql (b := true) H rfl rfl (ieq_t (by omega)) rfl fun a H => y_on H rfl rfl ?_
         refine y_move H rfl rfl fun a H => y_off H rfl rfl rfl fun a H => y_off H rfl rfl rfl fun a H => y_off H rfl rfl rfl fun a H => y_off H rfl rfl rfl fun a H => y_on H rfl rfl ?_
         refine y_pick H rfl rfl rfl fun a H => y_pick H rfl rfl rfl fun a H => ?_
         exact wpList_nil (then_normal (hJq _ (by rw [show exB (x :: y :: T) = true from exB_t _ _ (by omega)]; exact H.sub _ (sub_cons rfl (sub_cons rfl (sub_cons rfl (sub_cons rfl (sub_cons rfl (sub_cons rfl (sub_cons rfl (sub_nil)))))))))))
        ·refine y_eql (b := false) H rfl rfl (ieq_f (by omega)) rfl fun a H => y_on H rfl rfl ?_
         refine y_move H rfl rfl fun a H => y_on H rfl rfl ?_
         refine y_move H rfl rfl fun a H => y_on H rfl rfl ?_
         refine y_idx Tryz.underlying22 info5u H rfl rfl hv5 (by decide) rfl rfl fun a ad H hc86 => ?_
         refine y_on H rfl rfl ?_
         refine y_load one5 H rfl hc86 rfl fun a H => y_on H rfl rfl ?_
         by_cases q87 : ((x.toNat : Int)) = ((69 : Int))
         ·refine y_eql (b := true) H rfl rfl (ieq_t (by omega)) rfl fun a H => y_on H rfl rfl ?_
          refine y_pick H rfl rfl rfl fun a H => y_pick H rfl rfl rfl fun a H => ?_
          exact wpList_nil (then_normal (hJq _ (by rw [show exB (x :: y :: T) = true from exB_t _ _ (by omega)]; exact H.sub _ (sub_cons rfl (sub_cons rfl (sub_cons rfl (sub_cons rfl (sub_cons rfl (sub_cons rfl (sub_cons rfl (sub_nil)))))))))))
         ·refine y_eql (b := false) H rfl rfl (ieq_f (by omega)) rfl fun a H => y_on H rfl rfl ?_
          refine y_pick H rfl rfl rfl fun a H => y_pick H rfl rfl rfl fun a H => ?_
          exact wpList_nil (then_normal (hJq _ (by rw [show exB (x :: y :: T) = false from exB_f _ _ (by omega)]; exact H.sub _ (sub_cons rfl (sub_cons rfl (sub_cons rfl (sub_cons rfl (sub_cons rfl (sub_cons rfl (sub_cons rfl (sub_nil)))))))))))
     have Hs88 := H
     cases hp : ptB S with
     | false =>
      have H := Hs88
      rw [hp] at H
      refine y_iff H rfl ?_
      exact wp_skip (then_normal (hJf _ _ 0 _ _ _ (H.sub _ (sub_cons rfl (sub_cons rfl (sub_cons rfl (sub_cons rfl (sub_cons rfl (sub_cons rfl (sub_nil)))))))) hv4 (by omega) rfl (by omega) (hid ⟨nFrac_no hp, rfl⟩)))
     | true =>
      have H := Hs88
      rw [hp] at H
      have Hs89 := H
      obtain ⟨x, S, rfl, hx46⟩ := ptB_cons hp
      have H := Hs89
      have hlS : (x :: S).length = S.length + 1 := rfl
      refine y_ift H rfl ?_
      refine y_seq fun K90 hK90 => ?_
      refine y_reg ?_
      refine y_assign H rfl rfl fun a H => wpList_nil (then_normal (hK90 _ _ ?_))
      replace H := H.k7 2 3 4 5 6 7 12 rfl rfl rfl rfl rfl rfl rfl
      refine y_seq fun K91 hK91 => ?_
      refine y_reg ?_
      refine y_move H rfl rfl fun a H => y_from Tryz.underlying22 info5u H rfl rfl hv4 (by decide) (by first | omega | (simp; omega) | simp) rfl fun a v H hv92 => ?_
      replace hv92 : View _ _ v (S) := hv92
      refine y_assign H rfl rfl fun a H => wpList_nil (then_normal (hK91 _ _ ?_))
      replace H := H.k7 2 3 4 5 6 7 12 rfl rfl rfl rfl rfl rfl rfl
      refine y_seq fun K93 hK93 => ?_
      refine y_seq fun K94 hK94 => ?_
      have hJe : ∀ (a : Act), Has 344 [] a [(2, .pointer (some ⟨w.heap.size, 0, none⟩)), (3, .int .u8 ((K : Nat) : Int)), (4, .int .i64 ((s2 : Nat) : Int)), (5, .bool neg), (6, v), (7, .int .i64 ((sep : Nat) : Int)), (12, .int .i64 1), (228, .bool (efB K S))] → K94 a w1 := by
       intro a  H 
       refine hK94 _ _ ?_
       have Hs95 := H
       cases hf : efB K S with
       | true =>
        have H := Hs95
        rw [hf] at H
        refine y_ift H rfl ?_
        refine y_seq fun K96 hK96 => ?_
        refine y_reg ?_
        refine y_bld built_num0 H rfl rfl fun a H => y_storeRow (vs := [_, _, _, _]) H rfl rfl R0.out rfl (by kernel_rfl) (by simp [Value.oneCell']) fun w2 hr2 hg2 => ?_
        refine wpList_nil (then_normal (hK96 _ _ ?_))
        replace H := H.k7 2 3 4 5 6 7 12 rfl rfl rfl rfl rfl rfl rfl
        refine wp_ret (then_ret (then_ret (?_)))
        refine num_ret H rfl hr2 (below_grow HB.out hg2 (Nat.le_refl _) HB.out.size) ?_
        rw [show Z = none from by rw [HN.out, HR.out, nRest_frac (nFrac_bad S hx46 hf)] <;> rfl] <;> rfl
       | false =>
        have H := Hs95
        rw [hf] at H
        refine y_iff H rfl ?_
        refine wp_skip (then_normal (hK93 _ _ ?_))
        replace H := H.k7 2 3 4 5 6 7 12 rfl rfl rfl rfl rfl rfl rfl
        refine y_seq fun K97 hK97 => ?_
        have hrl98 := runN_le isDg (S)
        have hJ98 : ∀ (a : Act) (v : Value), Has 344 [] a [(2, .pointer (some ⟨w.heap.size, 0, none⟩)), (4, .int .i64 ((s2 : Nat) : Int)), (5, .bool neg), (7, .int .i64 ((sep : Nat) : Int)), (6, v), (12, .int .i64 ((1 + runN isDg (S) : Nat) : Int))] → View w1 g v ((S).drop (runN isDg (S))) → K97 a w1 := by
         intro a v H hv98
         refine hK97 _ _ ?_
         refine y_seq fun K99 hK99 => ?_
         refine y_reg ?_
         refine y_move H rfl rfl fun a H => y_move H rfl rfl fun a H => y_addi (r := ((s2 + (1 + runN isDg (S)) : Nat) : Int)) H rfl rfl (by omega) (by omega) (by omega) rfl fun a H => y_assign H rfl rfl fun a H => wpList_nil (then_normal (hK99 _ _ ?_))
         replace H := H.k6 2 4 5 6 7 12 rfl rfl rfl rfl rfl rfl
         refine y_reg ?_
         refine y_assign H rfl rfl fun a H => ?_
         exact wpList_nil (then_normal (hJf _ 4 _ _ _ _ (H.sub _ (sub_cons rfl (sub_cons rfl (sub_cons rfl (sub_cons rfl (sub_cons rfl (sub_cons rfl (sub_nil)))))))) hv98 (by omega) rfl (by have := List.length_drop (i := runN isDg S) (l := S); have := runN_le isDg S; omega) (hid ⟨nFrac_yes S hx46 hf, by rw [Nat.add_comm]; rfl⟩)))
        refine wp_block ?_
        refine wp_loop (fun a wx => ∃ (nL : Nat) (SL : List UInt8) (vL : Value), Has 344 [] a [(2, .pointer (some ⟨w.heap.size, 0, none⟩)), (4, .int .i64 ((s2 : Nat) : Int)), (5, .bool neg), (7, .int .i64 ((sep : Nat) : Int)), (6, vL), (12, .int .i64 ((1 + nL : Nat) : Int))] ∧ View w1 g vL SL ∧ nL + runN isDg SL = runN isDg (S) ∧ SL.drop (runN isDg SL) = (S).drop (runN isDg (S)) ∧ nL + SL.length = (S).length ∧ wx = w1) (fun a _ => 1 + (S).length - (intOf (a.eval (.tmp 12))).toNat) ?_ ?_
        ·exact ⟨0, _, _, H.sub _ (sub_cons rfl (sub_cons rfl (sub_cons rfl (sub_cons rfl (sub_cons rfl (sub_cons rfl (sub_nil))))))), hv92, by simp, rfl, by simp, rfl⟩
        ·rintro a wx ⟨nL, SL, vL, H, hvS, hn, hd, hl, rfl⟩
         have HE := hid (H.ev (x := .tmp 12) rfl)
         have Hs100 := H
         rcases SL with _ | ⟨xL, SL⟩
         ·have H := Hs100
          have hl0 : (([] : List UInt8)).length = 0 := rfl
          have hn0 : nL = runN isDg (S) := by have h0 : runN isDg [] = 0 := rfl; omega
          rw [hn0] at H
          refine y_seq fun K101 hK101 => ?_
          refine y_seq fun K102 hK102 => ?_
          refine y_reg ?_
          refine y_move H rfl rfl fun a H => y_len Tryz.underlying22 H rfl hvS rfl fun a H => y_gtr (b := false) H rfl rfl (decide_eq_false (by omega)) rfl fun a H => y_move H rfl rfl fun a H => y_off H rfl rfl rfl fun a H => y_off H rfl rfl rfl fun a H => y_off H rfl rfl rfl fun a H => y_off H rfl rfl rfl fun a H => y_pick H rfl rfl rfl fun a H => y_move H rfl rfl fun a H => y_off H rfl rfl rfl fun a H => ?_
          refine y_off H rfl rfl rfl fun a H => y_off H rfl rfl rfl fun a H => y_off H rfl rfl rfl fun a H => y_pick H rfl rfl rfl fun a H => wpList_nil (then_normal (hK102 _ _ ?_))
          replace H := H.k7 2 4 5 6 7 12 244 rfl rfl rfl rfl rfl rfl rfl
          refine y_iff H rfl ?_
          exact wp_exit (then_exit (then_exit (in_exit (then_normal (hJ98 _ _ (H.sub _ (sub_cons rfl (sub_cons rfl (sub_cons rfl (sub_cons rfl (sub_cons rfl (sub_cons rfl (sub_nil)))))))) (by rw [← hd]; exact hvS))))))
         ·have H := Hs100
          have hlx : (xL :: SL).length = SL.length + 1 := rfl
          have bx := byte_bd xL
          have Hs103 := H
          cases hp : isDg xL with
          | true =>
           have H := Hs103
           have hq := isDg_yes hp
           refine y_seq fun K104 hK104 => ?_
           refine y_seq fun K105 hK105 => ?_
           refine y_reg ?_
           refine y_move H rfl rfl fun a H => y_len Tryz.underlying22 H rfl hvS rfl fun a H => y_gtr (b := true) H rfl rfl (decide_eq_true (by omega)) rfl fun a H => y_move H rfl rfl fun a H => y_on H rfl rfl ?_
           refine y_move H rfl rfl fun a H => y_on H rfl rfl ?_
           refine y_idx Tryz.underlying22 info5u H rfl rfl hvS (by decide) rfl rfl fun a ad H hc106 => ?_
           refine y_on H rfl rfl ?_
           refine y_load one5 H rfl hc106 rfl fun a H => y_on H rfl rfl ?_
           refine y_leq (b := true) H rfl rfl (decide_eq_true (by omega)) rfl fun a H => y_pick H rfl rfl rfl fun a H => y_move H rfl rfl fun a H => y_on H rfl rfl ?_
           refine y_move H rfl rfl fun a H => y_on H rfl rfl ?_
           refine y_idx Tryz.underlying22 info5u H rfl rfl hvS (by decide) rfl rfl fun a ad H hc107 => ?_
           refine y_on H rfl rfl ?_
           refine y_load one5 H rfl hc107 rfl fun a H => y_on H rfl rfl ?_
           refine y_leq (b := true) H rfl rfl (decide_eq_true (by omega)) rfl fun a H => y_pick H rfl rfl rfl fun a H => wpList_nil (then_normal (hK105 _ _ ?_))
           replace H := H.k7 2 4 5 6 7 12 244 rfl rfl rfl rfl rfl rfl rfl
           refine y_ift H rfl ?_
           refine wp_skip (then_normal (hK104 _ _ ?_))
           replace H := H.k6 2 4 5 6 7 12 rfl rfl rfl rfl rfl rfl
           refine wp_block ?_
           refine y_seq fun K108 hK108 => ?_
           refine y_reg ?_
           refine y_move H rfl rfl fun a H => y_from Tryz.underlying22 info5u H rfl rfl hvS (by decide) (by first | omega | (simp; omega) | simp) rfl fun a v H hv109 => ?_
           replace hv109 : View _ _ v (SL) := hv109
           refine y_assign H rfl rfl fun a H => wpList_nil (then_normal (hK108 _ _ ?_))
           replace H := H.k6 2 4 5 6 7 12 rfl rfl rfl rfl rfl rfl
           refine y_reg ?_
           refine y_move H rfl rfl fun a H => y_addi (r := (((1 + nL) + 1 : Nat) : Int)) H rfl rfl (by omega) (by omega) (by omega) rfl fun a H => y_assign H rfl rfl fun a H => wpList_nil (in_normal (then_normal (⟨⟨nL + 1, SL, _, H.sub _ (sub_cons rfl (sub_cons rfl (sub_cons rfl (sub_cons rfl (sub_cons rfl (sub_cons rfl (sub_nil))))))), hv109, ?_, ?_, by omega, rfl⟩, ?_⟩)))
           ·have := runN_cons_yes SL hp; omega
           ·rw [← hd, runN_cons_yes SL hp] <;> rfl
           ·have h2 := H.ev (x := .tmp 12) rfl
            simp only [HE.out, h2, intOf]
            omega
          | false =>
           have H := Hs103
           have hq := isDg_no hp
           have hn0 : nL = runN isDg (S) := by have h0 := runN_cons_no SL hp; omega
           rw [hn0] at H
           refine y_seq fun K110 hK110 => ?_
           refine y_seq fun K111 hK111 => ?_
           refine y_reg ?_
           refine y_move H rfl rfl fun a H => y_len Tryz.underlying22 H rfl hvS rfl fun a H => y_gtr (b := true) H rfl rfl (decide_eq_true (by omega)) rfl fun a H => y_move H rfl rfl fun a H => y_on H rfl rfl ?_
           refine y_move H rfl rfl fun a H => y_on H rfl rfl ?_
           refine y_idx Tryz.underlying22 info5u H rfl rfl hvS (by decide) rfl rfl fun a ad H hc112 => ?_
           refine y_on H rfl rfl ?_
           refine y_load one5 H rfl hc112 rfl fun a H => y_on H rfl rfl ?_
           by_cases q113 : ((48 : Int)) ≤ ((xL.toNat : Int))
           ·refine y_leq (b := true) H rfl rfl (decide_eq_true (by omega)) rfl fun a H => y_pick H rfl rfl rfl fun a H => y_move H rfl rfl fun a H => y_on H rfl rfl ?_
            refine y_move H rfl rfl fun a H => y_on H rfl rfl ?_
            refine y_idx Tryz.underlying22 info5u H rfl rfl hvS (by decide) rfl rfl fun a ad H hc114 => ?_
            refine y_on H rfl rfl ?_
            refine y_load one5 H rfl hc114 rfl fun a H => y_on H rfl rfl ?_
            refine y_leq (b := false) H rfl rfl (decide_eq_false (by omega)) rfl fun a H => y_pick H rfl rfl rfl fun a H => wpList_nil (then_normal (hK111 _ _ ?_))
            replace H := H.k7 2 4 5 6 7 12 244 rfl rfl rfl rfl rfl rfl rfl
            refine y_iff H rfl ?_
            exact wp_exit (then_exit (then_exit (in_exit (then_normal (hJ98 _ _ (H.sub _ (sub_cons rfl (sub_cons rfl (sub_cons rfl (sub_cons rfl (sub_cons rfl (sub_cons rfl (sub_nil)))))))) (by rw [← hd, runN_cons_no SL hp]; exact hvS))))))
           ·refine y_leq (b := false) H rfl rfl (decide_eq_false (by omega)) rfl fun a H => y_pick H rfl rfl rfl fun a H => y_move H rfl rfl fun a H => y_off H rfl rfl rfl fun a H => y_off H rfl rfl rfl fun a H => y_off H rfl rfl rfl fun a H => y_off H rfl rfl rfl fun a H => y_pick H rfl rfl rfl fun a H => wpList_nil (then_normal (hK111 _ _ ?_))
            replace H := H.k7 2 4 5 6 7 12 244 rfl rfl rfl rfl rfl rfl rfl
            refine y_iff H rfl ?_
            exact wp_exit (then_exit (then_exit (in_exit (then_normal (hJ98 _ _ (H.sub _ (sub_cons rfl (sub_cons rfl (sub_cons rfl (sub_cons rfl (sub_cons rfl (sub_cons rfl (sub_nil)))))))) (by rw [← hd, runN_cons_no SL hp]; exact hvS))))))
      have Hs115 := H
      rcases S with _ | ⟨y, S⟩
      ·have H := Hs115
       have hlE : (([] : List UInt8)).length = 0 := rfl
       have Hs116 := H
       rcases hK04 with rfl | rfl
       ·have H := Hs116
        refine y_reg ?_
        refine y_move H rfl rfl fun a H => y_len Tryz.underlying22 H rfl hv92 rfl fun a H => y_eql (b := true) H rfl rfl (ieq_t (by omega)) rfl fun a H => y_move H rfl rfl fun a H => y_on H rfl rfl ?_
        refine y_move H rfl rfl fun a H => y_on H rfl rfl ?_
        refine y_eql (b := false) H rfl rfl (ieq_f (by omega)) rfl fun a H => y_pick H rfl rfl rfl fun a H => ?_
        exact wpList_nil (then_normal (hJe _ (by rw [show efB 0 [] = false from rfl]; exact H.sub _ (sub_cons rfl (sub_cons rfl (sub_cons rfl (sub_cons rfl (sub_cons rfl (sub_cons rfl (sub_cons rfl (sub_cons rfl (sub_nil))))))))))))
       ·have H := Hs116
        refine y_reg ?_
        refine y_move H rfl rfl fun a H => y_len Tryz.underlying22 H rfl hv92 rfl fun a H => y_eql (b := true) H rfl rfl (ieq_t (by omega)) rfl fun a H => y_move H rfl rfl fun a H => y_on H rfl rfl ?_
        refine y_move H rfl rfl fun a H => y_on H rfl rfl ?_
        refine y_eql (b := true) H rfl rfl (ieq_t (by omega)) rfl fun a H => y_pick H rfl rfl rfl fun a H => ?_
        exact wpList_nil (then_normal (hJe _ (by rw [show efB 4 [] = true from rfl]; exact H.sub _ (sub_cons rfl (sub_cons rfl (sub_cons rfl (sub_cons rfl (sub_cons rfl (sub_cons rfl (sub_cons rfl (sub_cons rfl (sub_nil))))))))))))
      ·have H := Hs115
       have hlE : (y :: S).length = S.length + 1 := rfl
       refine y_reg ?_
       refine y_move H rfl rfl fun a H => y_len Tryz.underlying22 H rfl hv92 rfl fun a H => y_eql (b := false) H rfl rfl (ieq_f (by omega)) rfl fun a H => y_move H rfl rfl fun a H => y_off H rfl rfl rfl fun a H => y_off H rfl rfl rfl fun a H => y_pick H rfl rfl rfl fun a H => ?_
       exact wpList_nil (then_normal (hJe _ (by rw [show efB K (y :: S) = false from rfl]; exact H.sub _ (sub_cons rfl (sub_cons rfl (sub_cons rfl (sub_cons rfl (sub_cons rfl (sub_cons rfl (sub_cons rfl (sub_cons rfl (sub_nil))))))))))))
    have Hs117 := H
    rcases S with _ | ⟨x, S⟩
    ·have H := Hs117
     have hlE : (([] : List UInt8)).length = 0 := rfl
     refine y_reg ?_
     refine y_move H rfl rfl fun a H => y_len Tryz.underlying22 H rfl hv4 rfl fun a H => y_gtr (b := false) H rfl rfl (decide_eq_false (by omega)) rfl fun a H => y_move H rfl rfl fun a H => y_off H rfl rfl rfl fun a H => y_off H rfl rfl rfl fun a H => y_off H rfl rfl rfl fun a H => y_off H rfl rfl rfl fun a H => y_pick H rfl rfl rfl fun a H => ?_
     exact wpList_nil (then_normal (hJp _ (by rw [show ptB [] = false from rfl]; exact H.sub _ (sub_cons rfl (sub_cons rfl (sub_cons rfl (sub_cons rfl (sub_cons rfl (sub_cons rfl (sub_cons rfl (sub_nil)))))))))))
    ·have H := Hs117
     have hlE : (x :: S).length = S.length + 1 := rfl
     have bxE := byte_bd x
     refine y_reg ?_
     refine y_move H rfl rfl fun a H => y_len Tryz.underlying22 H rfl hv4 rfl fun a H => y_gtr (b := true) H rfl rfl (decide_eq_true (by omega)) rfl fun a H => y_move H rfl rfl fun a H => y_on H rfl rfl ?_
     refine y_move H rfl rfl fun a H => y_on H rfl rfl ?_
     refine y_idx Tryz.underlying22 info5u H rfl rfl hv4 (by decide) rfl rfl fun a ad H hc118 => ?_
     refine y_on H rfl rfl ?_
     refine y_load one5 H rfl hc118 rfl fun a H => y_on H rfl rfl ?_
     by_cases q119 : ((x.toNat : Int)) = ((46 : Int))
     ·refine y_eql (b := true) H rfl rfl (ieq_t (by omega)) rfl fun a H => y_pick H rfl rfl rfl fun a H => ?_
      exact wpList_nil (then_normal (hJp _ (by rw [show ptB (x :: S) = true from ptB_t _ (by omega)]; exact H.sub _ (sub_cons rfl (sub_cons rfl (sub_cons rfl (sub_cons rfl (sub_cons rfl (sub_cons rfl (sub_cons rfl (sub_nil)))))))))))
     ·refine y_eql (b := false) H rfl rfl (ieq_f (by omega)) rfl fun a H => y_pick H rfl rfl rfl fun a H => ?_
      exact wpList_nil (then_normal (hJp _ (by rw [show ptB (x :: S) = false from ptB_f _ (by omega)]; exact H.sub _ (sub_cons rfl (sub_cons rfl (sub_cons rfl (sub_cons rfl (sub_cons rfl (sub_cons rfl (sub_cons rfl (sub_nil)))))))))))
   refine wp_block ?_
   refine y_seq fun K120 hK120 => ?_
   refine y_reg ?_
   refine y_move H rfl rfl fun a H => y_idx Tryz.underlying22 info5u H rfl rfl hv2 (by decide) rfl rfl fun a ad H hc121 => ?_
   refine y_load one5 H rfl hc121 rfl fun a H => ?_
   by_cases q122 : ((c1.toNat : Int)) = ((48 : Int))
   ·refine y_eql (b := true) H rfl rfl (ieq_t (by omega)) rfl fun a H => y_assign H rfl rfl fun a H => wpList_nil (then_normal (hK120 _ _ ?_))
    replace H := H.k7 2 3 4 5 6 7 43 rfl rfl rfl rfl rfl rfl rfl
    refine y_ift H rfl ?_
    refine y_seq fun K123 hK123 => ?_
    refine y_seq fun K124 hK124 => ?_
    have h48 : c1.toNat = 48 := by omega
    have Hs125 := H
    rcases l1 with _ | ⟨d1, l2⟩
    ·have H := Hs125
     have hl2 : [c1].length = 1 := rfl
     refine y_reg ?_
     refine y_move H rfl rfl fun a H => y_len Tryz.underlying22 H rfl hv2 rfl fun a H => y_gtr (b := false) H rfl rfl (decide_eq_false (by omega)) rfl fun a H => wpList_nil (then_normal (hK124 _ _ ?_))
     replace H := H.k7 2 3 4 5 6 7 50 rfl rfl rfl rfl rfl rfl rfl
     refine y_iff H rfl ?_
     refine wp_skip (then_normal (hK123 _ _ ?_))
     replace H := H.k6 2 3 4 5 6 7 rfl rfl rfl rfl rfl rfl
     refine y_seq fun K126 hK126 => ?_
     refine y_reg ?_
     refine y_move H rfl rfl fun a H => y_from Tryz.underlying22 info5u H rfl rfl hv2 (by decide) (by first | omega | (simp; omega) | simp) rfl fun a v H hv127 => ?_
     replace hv127 : View _ _ v ([]) := hv127
     refine y_assign H rfl rfl fun a H => wpList_nil (then_normal (hK126 _ _ ?_))
     replace H := H.k6 2 3 4 5 6 7 rfl rfl rfl rfl rfl rfl
     refine y_reg ?_
     refine y_move H rfl rfl fun a H => y_addi (r := ((sz + 1 : Nat) : Int)) H rfl rfl (by omega) (by omega) (by omega) rfl fun a H => y_assign H rfl rfl fun a H => ?_
     exact wpList_nil (in_normal (then_normal (hJs _ 0 1 _ _ _ (H.sub _ (sub_cons rfl (sub_cons rfl (sub_cons rfl (sub_cons rfl (sub_cons rfl (sub_cons rfl (sub_nil)))))))) hv127 (.inl rfl) rfl (by simp) (hid (numB_zero h48)))))
    ·have H := Hs125
     have hl2 : (c1 :: d1 :: l2).length = l2.length + 2 := rfl
     have hl3 : (d1 :: l2).length = l2.length + 1 := rfl
     have bd1 := byte_bd d1
     refine y_reg ?_
     refine y_move H rfl rfl fun a H => y_len Tryz.underlying22 H rfl hv2 rfl fun a H => y_gtr (b := true) H rfl rfl (decide_eq_true (by omega)) rfl fun a H => wpList_nil (then_normal (hK124 _ _ ?_))
     replace H := H.k7 2 3 4 5 6 7 50 rfl rfl rfl rfl rfl rfl rfl
     refine y_ift H rfl ?_
     refine y_seq fun K128 hK128 => ?_
     refine wp_block ?_
     refine y_seq fun K129 hK129 => ?_
     have hJx : ∀ (a : Act), Has 344 [] a [(2, .pointer (some ⟨w.heap.size, 0, none⟩)), (3, .int .u8 0), (4, .int .i64 ((sz : Nat) : Int)), (5, .bool neg), (6, v1), (7, .int .i64 ((sep : Nat) : Int)), (51, .bool (xB d1))] → K129 a w1 := by
      intro a  H 
      refine hK129 _ _ ?_
      have Hs130 := H
      cases hx : xB d1 with
      | true =>
       have H := Hs130
       rw [hx] at H
       refine y_ift H rfl ?_
       refine y_seq fun K131 hK131 => ?_
       refine y_reg ?_
       refine y_assign H rfl rfl fun a H => wpList_nil (then_normal (hK131 _ _ ?_))
       replace H := H.k6 2 3 4 5 6 7 rfl rfl rfl rfl rfl rfl
       refine y_seq fun K132 hK132 => ?_
       refine y_reg ?_
       refine y_assign H rfl rfl fun a H => wpList_nil (then_normal (hK132 _ _ ?_))
       replace H := H.k7 2 3 4 5 6 7 9 rfl rfl rfl rfl rfl rfl rfl
       refine y_seq fun K133 hK133 => ?_
       refine y_reg ?_
       refine y_move H rfl rfl fun a H => y_from Tryz.underlying22 info5u H rfl rfl hv2 (by decide) (by first | omega | (simp; omega) | simp) rfl fun a v H hv134 => ?_
       replace hv134 : View _ _ v (l2) := hv134
       refine y_assign H rfl rfl fun a H => wpList_nil (then_normal (hK133 _ _ ?_))
       replace H := H.k7 2 3 4 5 6 7 9 rfl rfl rfl rfl rfl rfl rfl
       refine y_seq fun K135 hK135 => ?_
       have hrl136 := runN_le isHex (l2)
       have hJ136 : ∀ (a : Act) (v : Value), Has 344 [] a [(2, .pointer (some ⟨w.heap.size, 0, none⟩)), (3, .int .u8 1), (4, .int .i64 ((sz : Nat) : Int)), (5, .bool neg), (7, .int .i64 ((sep : Nat) : Int)), (6, v), (9, .int .i64 ((2 + runN isHex (l2) : Nat) : Int))] → View w1 g v ((l2).drop (runN isHex (l2))) → K135 a w1 := by
        intro a v H hv136
        refine hK135 _ _ ?_
        refine y_seq fun K137 hK137 => ?_
        refine y_seq fun K138 hK138 => ?_
        have hr2 := runN_le isHex l2
        by_cases hm0 : runN isHex l2 = 0
        ·refine y_reg ?_
         refine y_move H rfl rfl fun a H => y_eql (b := true) H rfl rfl (ieq_t (by omega)) rfl fun a H => wpList_nil (then_normal (hK138 _ _ ?_))
         replace H := H.k8 2 3 4 5 6 7 9 108 rfl rfl rfl rfl rfl rfl rfl rfl
         refine y_ift H rfl ?_
         refine y_seq fun K139 hK139 => ?_
         refine y_reg ?_
         refine y_bld built_num0 H rfl rfl fun a H => y_storeRow (vs := [_, _, _, _]) H rfl rfl R0.out rfl (by kernel_rfl) (by simp [Value.oneCell']) fun w2 hr2 hg2 => ?_
         refine wpList_nil (then_normal (hK139 _ _ ?_))
         replace H := H.k7 2 3 4 5 6 7 9 rfl rfl rfl rfl rfl rfl rfl
         refine wp_ret (then_ret (in_ret (then_ret (then_ret (in_ret (then_ret (?_)))))))
         refine num_ret H rfl hr2 (below_grow HB.out hg2 (Nat.le_refl _) HB.out.size) ?_
         rw [show Z = none from by rw [HN.out, numB_hex0 h48 hx hm0] <;> rfl] <;> rfl
        ·refine y_reg ?_
         refine y_move H rfl rfl fun a H => y_eql (b := false) H rfl rfl (ieq_f (by omega)) rfl fun a H => wpList_nil (then_normal (hK138 _ _ ?_))
         replace H := H.k8 2 3 4 5 6 7 9 108 rfl rfl rfl rfl rfl rfl rfl rfl
         refine y_iff H rfl ?_
         refine wp_skip (then_normal (hK137 _ _ ?_))
         replace H := H.k7 2 3 4 5 6 7 9 rfl rfl rfl rfl rfl rfl rfl
         refine y_reg ?_
         refine y_move H rfl rfl fun a H => y_move H rfl rfl fun a H => y_addi (r := ((sz + (2 + runN isHex (l2)) : Nat) : Int)) H rfl rfl (by omega) (by omega) (by omega) rfl fun a H => y_assign H rfl rfl fun a H => wpList_nil (in_normal (then_normal (hK128 _ _ ?_)))
         replace H := H.k7 2 3 4 5 6 7 9 rfl rfl rfl rfl rfl rfl rfl
         refine y_seq fun K140 hK140 => ?_
         refine y_reg ?_
         refine y_move H rfl rfl fun a H => y_and (r := (1 : Int)) H rfl rfl (by kernel_rfl) rfl fun a H => y_gtr (b := true) H rfl rfl (by decide) rfl fun a H => wpList_nil (then_normal (hK140 _ _ ?_))
         replace H := H.k8 2 3 4 5 6 7 9 150 rfl rfl rfl rfl rfl rfl rfl rfl
         refine y_ift H rfl ?_
         refine y_seq fun K141 hK141 => ?_
         refine y_seq fun K142 hK142 => ?_
         have Hs143 := H
         rcases hS : l2.drop (runN isHex l2) with _ | ⟨x, S⟩
         ·have H := Hs143
          have hvE : View w1 g _ ([] : List UInt8) := hS ▸ hv136
          have hlE : (([] : List UInt8)).length = 0 := rfl
          refine y_reg ?_
          refine y_move H rfl rfl fun a H => y_len Tryz.underlying22 H rfl hvE rfl fun a H => y_gtr (b := false) H rfl rfl (decide_eq_false (by omega)) rfl fun a H => y_move H rfl rfl fun a H => y_off H rfl rfl rfl fun a H => y_off H rfl rfl rfl fun a H => y_off H rfl rfl rfl fun a H => y_off H rfl rfl rfl fun a H => y_off H rfl rfl rfl fun a H => y_pick H rfl rfl rfl fun a H => wpList_nil (then_normal (hK142 _ _ ?_))
          replace H := H.k8 2 3 4 5 6 7 9 160 rfl rfl rfl rfl rfl rfl rfl rfl
          refine y_iff H rfl ?_
          refine wp_skip (then_normal (hK141 _ _ ?_))
          replace H := H.k7 2 3 4 5 6 7 9 rfl rfl rfl rfl rfl rfl rfl
          refine y_seq fun K144 hK144 => ?_
          refine y_reg ?_
          refine y_move H rfl rfl fun a H => y_move H rfl rfl fun a H => y_move H rfl rfl fun a H => y_move H rfl rfl fun a H => y_bld (built_num _ _ _ _) H rfl rfl fun a H => y_storeRow (vs := [_, _, _, _]) H rfl rfl R0.out rfl (by kernel_rfl) (by simp [Value.oneCell']) fun w2 hr2 hg2 => ?_
          refine wpList_nil (then_normal (hK144 _ _ ?_))
          replace H := H.k7 2 3 4 5 6 7 9 rfl rfl rfl rfl rfl rfl rfl
          refine wp_ret (then_ret (in_ret (then_ret (?_))))
          refine num_ret H rfl hr2 (below_grow HB.out hg2 (Nat.le_refl _) HB.out.size) ?_
          rw [show Z = some ⟨1, neg, sz + (2 + runN isHex l2), sep⟩ from by rw [HN.out, numB_hex h48 hx hm0, hS] <;> rfl] <;> rfl
         ·have H := Hs143
          have hvE : View w1 g _ (x :: S) := hS ▸ hv136
          have hlE : (x :: S).length = S.length + 1 := rfl
          have Hs145 := H
          cases hde : delC x with
          | true =>
           have H := Hs145
           refine y_reg ?_
           refine y_move H rfl rfl fun a H => y_len Tryz.underlying22 H rfl hvE rfl fun a H => y_gtr (b := true) H rfl rfl (decide_eq_true (by omega)) rfl fun a H => y_move H rfl rfl fun a H => y_on H rfl rfl ?_
           refine y_move H rfl rfl fun a H => y_on H rfl rfl ?_
           refine y_idx Tryz.underlying22 info5u H rfl rfl hvE (by decide) rfl rfl fun a ad H hc146 => ?_
           refine y_on H rfl rfl ?_
           refine y_load one5 H rfl hc146 rfl fun a H => y_on H rfl rfl ?_
           refine y_call pf_isDelim H rfl rfl (Calls.mono (isDelim_any x w1) ?_)
           rintro e w2 ⟨rfl, rfl⟩
           rw [hde]
           refine ⟨_, rfl, fun a H => ?_⟩
           refine y_on H rfl rfl ?_
           refine y_not H rfl rfl fun a H => y_pick H rfl rfl rfl fun a H => wpList_nil (then_normal (hK142 _ _ ?_))
           replace H := H.k8 2 3 4 5 6 7 9 160 rfl rfl rfl rfl rfl rfl rfl rfl
           refine y_iff H rfl ?_
           refine wp_skip (then_normal (hK141 _ _ ?_))
           replace H := H.k7 2 3 4 5 6 7 9 rfl rfl rfl rfl rfl rfl rfl
           refine y_seq fun K147 hK147 => ?_
           refine y_reg ?_
           refine y_move H rfl rfl fun a H => y_move H rfl rfl fun a H => y_move H rfl rfl fun a H => y_move H rfl rfl fun a H => y_bld (built_num _ _ _ _) H rfl rfl fun a H => y_storeRow (vs := [_, _, _, _]) H rfl rfl R0.out rfl (by kernel_rfl) (by simp [Value.oneCell']) fun w2 hr2 hg2 => ?_
           refine wpList_nil (then_normal (hK147 _ _ ?_))
           replace H := H.k7 2 3 4 5 6 7 9 rfl rfl rfl rfl rfl rfl rfl
           refine wp_ret (then_ret (in_ret (then_ret (?_))))
           refine num_ret H rfl hr2 (below_grow HB.out hg2 (Nat.le_refl _) HB.out.size) ?_
           rw [show Z = some ⟨1, neg, sz + (2 + runN isHex l2), sep⟩ from by rw [HN.out, numB_hex h48 hx hm0, hS, endT_cons, hde] <;> rfl] <;> rfl
          | false =>
           have H := Hs145
           refine y_reg ?_
           refine y_move H rfl rfl fun a H => y_len Tryz.underlying22 H rfl hvE rfl fun a H => y_gtr (b := true) H rfl rfl (decide_eq_true (by omega)) rfl fun a H => y_move H rfl rfl fun a H => y_on H rfl rfl ?_
           refine y_move H rfl rfl fun a H => y_on H rfl rfl ?_
           refine y_idx Tryz.underlying22 info5u H rfl rfl hvE (by decide) rfl rfl fun a ad H hc148 => ?_
           refine y_on H rfl rfl ?_
           refine y_load one5 H rfl hc148 rfl fun a H => y_on H rfl rfl ?_
           refine y_call pf_isDelim H rfl rfl (Calls.mono (isDelim_any x w1) ?_)
           rintro e w2 ⟨rfl, rfl⟩
           rw [hde]
           refine ⟨_, rfl, fun a H => ?_⟩
           refine y_on H rfl rfl ?_
           refine y_not H rfl rfl fun a H => y_pick H rfl rfl rfl fun a H => wpList_nil (then_normal (hK142 _ _ ?_))
           replace H := H.k8 2 3 4 5 6 7 9 160 rfl rfl rfl rfl rfl rfl rfl rfl
           refine y_ift H rfl ?_
           refine y_seq fun K149 hK149 => ?_
           refine y_reg ?_
           refine y_bld built_num0 H rfl rfl fun a H => y_storeRow (vs := [_, _, _, _]) H rfl rfl R0.out rfl (by kernel_rfl) (by simp [Value.oneCell']) fun w2 hr2 hg2 => ?_
           refine wpList_nil (then_normal (hK149 _ _ ?_))
           replace H := H.k7 2 3 4 5 6 7 9 rfl rfl rfl rfl rfl rfl rfl
           refine wp_ret (then_ret (then_ret (in_ret (then_ret (?_)))))
           refine num_ret H rfl hr2 (below_grow HB.out hg2 (Nat.le_refl _) HB.out.size) ?_
           rw [show Z = none from by rw [HN.out, numB_hex h48 hx hm0, hS, endT_cons, hde] <;> rfl] <;> rfl
       refine wp_block ?_
       refine wp_loop (fun a wx => ∃ (nL : Nat) (SL : List UInt8) (vL : Value), Has 344 [] a [(2, .pointer (some ⟨w.heap.size, 0, none⟩)), (3, .int .u8 1), (4, .int .i64 ((sz : Nat) : Int)), (5, .bool neg), (7, .int .i64 ((sep : Nat) : Int)), (6, vL), (9, .int .i64 ((2 + nL : Nat) : Int))] ∧ View w1 g vL SL ∧ nL + runN isHex SL = runN isHex (l2) ∧ SL.drop (runN isHex SL) = (l2).drop (runN isHex (l2)) ∧ nL + SL.length = (l2).length ∧ wx = w1) (fun a _ => 2 + (l2).length - (intOf (a.eval (.tmp 9))).toNat) ?_ ?_
       ·exact ⟨0, _, _, H.sub _ (sub_cons rfl (sub_cons rfl (sub_cons rfl (sub_cons rfl (sub_cons rfl (sub_cons rfl (sub_cons rfl (sub_nil)))))))), hv134, by simp, rfl, by simp, rfl⟩
       ·rintro a wx ⟨nL, SL, vL, H, hvS, hn, hd, hl, rfl⟩
        have HE := hid (H.ev (x := .tmp 9) rfl)
        have Hs150 := H
        rcases SL with _ | ⟨xL, SL⟩
        ·have H := Hs150
         have hl0 : (([] : List UInt8)).length = 0 := rfl
         have hn0 : nL = runN isHex (l2) := by have h0 : runN isHex [] = 0 := rfl; omega
         rw [hn0] at H
         refine y_seq fun K151 hK151 => ?_
         refine y_seq fun K152 hK152 => ?_
         refine y_reg ?_
         refine y_move H rfl rfl fun a H => y_len Tryz.underlying22 H rfl hvS rfl fun a H => y_gtr (b := false) H rfl rfl (decide_eq_false (by omega)) rfl fun a H => y_move H rfl rfl fun a H => y_off H rfl rfl rfl fun a H => y_off H rfl rfl rfl fun a H => y_off H rfl rfl rfl fun a H => y_off H rfl rfl rfl fun a H => y_off H rfl rfl rfl fun a H => y_offu H rfl rfl rfl fun a H => y_offu H rfl rfl rfl fun a H => ?_
         refine y_offu H rfl rfl rfl fun a H => y_offu H rfl rfl rfl fun a H => y_off H rfl rfl rfl fun a H => y_off H rfl rfl rfl fun a H => y_offu H rfl rfl rfl fun a H => y_offu H rfl rfl rfl fun a H => y_offu H rfl rfl rfl fun a H => y_offu H rfl rfl rfl fun a H => y_offu H rfl rfl rfl fun a H => y_offu H rfl rfl rfl fun a H => y_offu H rfl rfl rfl fun a H => ?_
         refine y_offu H rfl rfl rfl fun a H => y_offu H rfl rfl rfl fun a H => y_offu H rfl rfl rfl fun a H => y_off H rfl rfl rfl fun a H => y_off H rfl rfl rfl fun a H => y_offu H rfl rfl rfl fun a H => y_offu H rfl rfl rfl fun a H => y_offu H rfl rfl rfl fun a H => y_offu H rfl rfl rfl fun a H => y_offu H rfl rfl rfl fun a H => y_offu H rfl rfl rfl fun a H => ?_
         refine y_offu H rfl rfl rfl fun a H => y_offu H rfl rfl rfl fun a H => y_offu H rfl rfl rfl fun a H => y_offu H rfl rfl rfl fun a H => y_off H rfl rfl rfl fun a H => y_pick H rfl rfl rfl fun a H => wpList_nil (then_normal (hK152 _ _ ?_))
         replace H := H.k8 2 3 4 5 6 7 9 102 rfl rfl rfl rfl rfl rfl rfl rfl
         refine y_iff H rfl ?_
         exact wp_exit (then_exit (then_exit (in_exit (then_normal (hJ136 _ _ (H.sub _ (sub_cons rfl (sub_cons rfl (sub_cons rfl (sub_cons rfl (sub_cons rfl (sub_cons rfl (sub_cons rfl (sub_nil))))))))) (by rw [← hd]; exact hvS))))))
        ·have H := Hs150
         have hlx : (xL :: SL).length = SL.length + 1 := rfl
         have bx := byte_bd xL
         have Hs153 := H
         cases hp : isHex xL with
         | true =>
          have H := Hs153
          have hq := isHex_yes hp
          refine y_seq fun K154 hK154 => ?_
          refine y_seq fun K155 hK155 => ?_
          refine y_reg ?_
          refine y_move H rfl rfl fun a H => y_len Tryz.underlying22 H rfl hvS rfl fun a H => y_gtr (b := true) H rfl rfl (decide_eq_true (by omega)) rfl fun a H => y_move H rfl rfl fun a H => y_on H rfl rfl ?_
          refine y_move H rfl rfl fun a H => y_on H rfl rfl ?_
          refine y_idx Tryz.underlying22 info5u H rfl rfl hvS (by decide) rfl rfl fun a ad H hc156 => ?_
          refine y_on H rfl rfl ?_
          refine y_load one5 H rfl hc156 rfl fun a H => y_on H rfl rfl ?_
          refine y_leq (b := true) H rfl rfl (decide_eq_true (by omega)) rfl fun a H => y_on H rfl rfl ?_
          refine y_move H rfl rfl fun a H => y_on H rfl rfl ?_
          refine y_move H rfl rfl fun a H => y_on H rfl rfl ?_
          refine y_idx Tryz.underlying22 info5u H rfl rfl hvS (by decide) rfl rfl fun a ad H hc157 => ?_
          refine y_on H rfl rfl ?_
          refine y_load one5 H rfl hc157 rfl fun a H => y_on H rfl rfl ?_
          by_cases q158 : ((xL.toNat : Int)) ≤ ((57 : Int))
          ·refine y_leq (b := true) H rfl rfl (decide_eq_true (by omega)) rfl fun a H => y_on H rfl rfl ?_
           refine y_pick H rfl rfl rfl fun a H => y_on H rfl rfl ?_
           refine y_move H rfl rfl fun a H => y_off H rfl rfl rfl fun a H => y_off H rfl rfl rfl fun a H => y_off H rfl rfl rfl fun a H => y_off H rfl rfl rfl fun a H => y_off H rfl rfl rfl fun a H => y_offu H rfl rfl rfl fun a H => y_offu H rfl rfl rfl fun a H => y_offu H rfl rfl rfl fun a H => y_offu H rfl rfl rfl fun a H => y_off H rfl rfl rfl fun a H => ?_
           refine y_on H rfl rfl ?_
           refine y_pick H rfl rfl rfl fun a H => y_on H rfl rfl ?_
           refine y_move H rfl rfl fun a H => y_off H rfl rfl rfl fun a H => y_off H rfl rfl rfl fun a H => y_off H rfl rfl rfl fun a H => y_off H rfl rfl rfl fun a H => y_off H rfl rfl rfl fun a H => y_offu H rfl rfl rfl fun a H => y_offu H rfl rfl rfl fun a H => y_offu H rfl rfl rfl fun a H => y_offu H rfl rfl rfl fun a H => y_off H rfl rfl rfl fun a H => ?_
           refine y_on H rfl rfl ?_
           refine y_pick H rfl rfl rfl fun a H => y_pick H rfl rfl rfl fun a H => wpList_nil (then_normal (hK155 _ _ ?_))
           replace H := H.k8 2 3 4 5 6 7 9 102 rfl rfl rfl rfl rfl rfl rfl rfl
           refine y_ift H rfl ?_
           refine wp_skip (then_normal (hK154 _ _ ?_))
           replace H := H.k7 2 3 4 5 6 7 9 rfl rfl rfl rfl rfl rfl rfl
           refine wp_block ?_
           refine y_seq fun K159 hK159 => ?_
           refine y_reg ?_
           refine y_move H rfl rfl fun a H => y_from Tryz.underlying22 info5u H rfl rfl hvS (by decide) (by first | omega | (simp; omega) | simp) rfl fun a v H hv160 => ?_
           replace hv160 : View _ _ v (SL) := hv160
           refine y_assign H rfl rfl fun a H => wpList_nil (then_normal (hK159 _ _ ?_))
           replace H := H.k7 2 3 4 5 6 7 9 rfl rfl rfl rfl rfl rfl rfl
           refine y_reg ?_
           refine y_move H rfl rfl fun a H => y_addi (r := (((2 + nL) + 1 : Nat) : Int)) H rfl rfl (by omega) (by omega) (by omega) rfl fun a H => y_assign H rfl rfl fun a H => wpList_nil (in_normal (then_normal (⟨⟨nL + 1, SL, _, H.sub _ (sub_cons rfl (sub_cons rfl (sub_cons rfl (sub_cons rfl (sub_cons rfl (sub_cons rfl (sub_cons rfl (sub_nil)))))))), hv160, ?_, ?_, by omega, rfl⟩, ?_⟩)))
           ·have := runN_cons_yes SL hp; omega
           ·rw [← hd, runN_cons_yes SL hp] <;> rfl
           ·have h2 := H.ev (x := .tmp 9) rfl
            simp only [HE.out, h2, intOf]
            omega
          ·refine y_leq (b := false) H rfl rfl (decide_eq_false (by omega)) rfl fun a H => y_on H rfl rfl ?_
           refine y_pick H rfl rfl rfl fun a H => y_on H rfl rfl ?_
           refine y_move H rfl rfl fun a H => y_on H rfl rfl ?_
           refine y_move H rfl rfl fun a H => y_on H rfl rfl ?_
           refine y_idx Tryz.underlying22 info5u H rfl rfl hvS (by decide) rfl rfl fun a ad H hc161 => ?_
           refine y_on H rfl rfl ?_
           refine y_load one5 H rfl hc161 rfl fun a H => y_on H rfl rfl ?_
           by_cases q162 : ((97 : Int)) ≤ ((xL.toNat : Int))
           ·refine y_leq (b := true) H rfl rfl (decide_eq_true (by omega)) rfl fun a H => y_on H rfl rfl ?_
            refine y_move H rfl rfl fun a H => y_on H rfl rfl ?_
            refine y_move H rfl rfl fun a H => y_on H rfl rfl ?_
            refine y_idx Tryz.underlying22 info5u H rfl rfl hvS (by decide) rfl rfl fun a ad H hc163 => ?_
            refine y_on H rfl rfl ?_
            refine y_load one5 H rfl hc163 rfl fun a H => y_on H rfl rfl ?_
            refine y_leq (b := true) H rfl rfl (decide_eq_true (by omega)) rfl fun a H => y_on H rfl rfl ?_
            refine y_pick H rfl rfl rfl fun a H => y_on H rfl rfl ?_
            refine y_pick H rfl rfl rfl fun a H => y_on H rfl rfl ?_
            refine y_move H rfl rfl fun a H => y_off H rfl rfl rfl fun a H => y_off H rfl rfl rfl fun a H => y_off H rfl rfl rfl fun a H => y_off H rfl rfl rfl fun a H => y_off H rfl rfl rfl fun a H => y_offu H rfl rfl rfl fun a H => y_offu H rfl rfl rfl fun a H => y_offu H rfl rfl rfl fun a H => y_offu H rfl rfl rfl fun a H => y_off H rfl rfl rfl fun a H => ?_
            refine y_on H rfl rfl ?_
            refine y_pick H rfl rfl rfl fun a H => y_pick H rfl rfl rfl fun a H => wpList_nil (then_normal (hK155 _ _ ?_))
            replace H := H.k8 2 3 4 5 6 7 9 102 rfl rfl rfl rfl rfl rfl rfl rfl
            refine y_ift H rfl ?_
            refine wp_skip (then_normal (hK154 _ _ ?_))
            replace H := H.k7 2 3 4 5 6 7 9 rfl rfl rfl rfl rfl rfl rfl
            refine wp_block ?_
            refine y_seq fun K164 hK164 => ?_
            refine y_reg ?_
            refine y_move H rfl rfl fun a H => y_from Tryz.underlying22 info5u H rfl rfl hvS (by decide) (by first | omega | (simp; omega) | simp) rfl fun a v H hv165 => ?_
            replace hv165 : View _ _ v (SL) := hv165
            refine y_assign H rfl rfl fun a H => wpList_nil (then_normal (hK164 _ _ ?_))
            replace H := H.k7 2 3 4 5 6 7 9 rfl rfl rfl rfl rfl rfl rfl
            refine y_reg ?_
            refine y_move H rfl rfl fun a H => y_addi (r := (((2 + nL) + 1 : Nat) : Int)) H rfl rfl (by omega) (by omega) (by omega) rfl fun a H => y_assign H rfl rfl fun a H => wpList_nil (in_normal (then_normal (⟨⟨nL + 1, SL, _, H.sub _ (sub_cons rfl (sub_cons rfl (sub_cons rfl (sub_cons rfl (sub_cons rfl (sub_cons rfl (sub_cons rfl (sub_nil)))))))), hv165, ?_, ?_, by omega, rfl⟩, ?_⟩)))
            ·have := runN_cons_yes SL hp; omega
            ·rw [← hd, runN_cons_yes SL hp] <;> rfl
            ·have h2 := H.ev (x := .tmp 9) rfl
             simp only [HE.out, h2, intOf]
             omega
           ·refine y_leq (b := false) H rfl rfl (decide_eq_false (by omega)) rfl fun a H => y_on H rfl rfl ?_
            refine y_move H rfl rfl fun a H => y_off H rfl rfl rfl fun a H => y_off H rfl rfl rfl fun a H => y_off H rfl rfl rfl fun a H => y_off H rfl rfl rfl fun a H => y_on H rfl rfl ?_
            refine y_pick H rfl rfl rfl fun a H => y_on H rfl rfl ?_
            refine y_pick H rfl rfl rfl fun a H => y_on H rfl rfl ?_
            refine y_move H rfl rfl fun a H => y_on H rfl rfl ?_
            refine y_move H rfl rfl fun a H => y_on H rfl rfl ?_
            refine y_idx Tryz.underlying22 info5u H rfl rfl hvS (by decide) rfl rfl fun a ad H hc166 => ?_
            refine y_on H rfl rfl ?_
            refine y_load one5 H rfl hc166 rfl fun a H => y_on H rfl rfl ?_
            refine y_leq (b := true) H rfl rfl (decide_eq_true (by omega)) rfl fun a H => y_on H rfl rfl ?_
            refine y_move H rfl rfl fun a H => y_on H rfl rfl ?_
            refine y_move H rfl rfl fun a H => y_on H rfl rfl ?_
            refine y_idx Tryz.underlying22 info5u H rfl rfl hvS (by decide) rfl rfl fun a ad H hc167 => ?_
            refine y_on H rfl rfl ?_
            refine y_load one5 H rfl hc167 rfl fun a H => y_on H rfl rfl ?_
            refine y_leq (b := true) H rfl rfl (decide_eq_true (by omega)) rfl fun a H => y_on H rfl rfl ?_
            refine y_pick H rfl rfl rfl fun a H => y_on H rfl rfl ?_
            refine y_pick H rfl rfl rfl fun a H => y_pick H rfl rfl rfl fun a H => wpList_nil (then_normal (hK155 _ _ ?_))
            replace H := H.k8 2 3 4 5 6 7 9 102 rfl rfl rfl rfl rfl rfl rfl rfl
            refine y_ift H rfl ?_
            refine wp_skip (then_normal (hK154 _ _ ?_))
            replace H := H.k7 2 3 4 5 6 7 9 rfl rfl rfl rfl rfl rfl rfl
            refine wp_block ?_
            refine y_seq fun K168 hK168 => ?_
            refine y_reg ?_
            refine y_move H rfl rfl fun a H => y_from Tryz.underlying22 info5u H rfl rfl hvS (by decide) (by first | omega | (simp; omega) | simp) rfl fun a v H hv169 => ?_
            replace hv169 : View _ _ v (SL) := hv169
            refine y_assign H rfl rfl fun a H => wpList_nil (then_normal (hK168 _ _ ?_))
            replace H := H.k7 2 3 4 5 6 7 9 rfl rfl rfl rfl rfl rfl rfl
            refine y_reg ?_
            refine y_move H rfl rfl fun a H => y_addi (r := (((2 + nL) + 1 : Nat) : Int)) H rfl rfl (by omega) (by omega) (by omega) rfl fun a H => y_assign H rfl rfl fun a H => wpList_nil (in_normal (then_normal (⟨⟨nL + 1, SL, _, H.sub _ (sub_cons rfl (sub_cons rfl (sub_cons rfl (sub_cons rfl (sub_cons rfl (sub_cons rfl (sub_cons rfl (sub_nil)))))))), hv169, ?_, ?_, by omega, rfl⟩, ?_⟩)))
            ·have := runN_cons_yes SL hp; omega
            ·rw [← hd, runN_cons_yes SL hp] <;> rfl
            ·have h2 := H.ev (x := .tmp 9) rfl
             simp only [HE.out, h2, intOf]
             omega
         | false =>
          have H := Hs153
          have hq := isHex_no hp
          have hn0 : nL = runN isHex (l2) := by have h0 := runN_cons_no SL hp; omega
          rw [hn0] at H
          refine y_seq fun K170 hK170 => ?_
          refine y_seq fun K171 hK171 => ?_
          refine y_reg ?_
          refine y_move H rfl rfl fun a H => y_len Tryz.underlying22 H rfl hvS rfl fun a H => y_gtr (b := true) H rfl rfl (decide_eq_true (by omega)) rfl fun a H => y_move H rfl rfl fun a H => y_on H rfl rfl ?_
          refine y_move H rfl rfl fun a H => y_on H rfl rfl ?_
          refine y_idx Tryz.underlying22 info5u H rfl rfl hvS (by decide) rfl rfl fun a ad H hc172 => ?_
          refine y_on H rfl rfl ?_
          refine y_load one5 H rfl hc172 rfl fun a H => y_on H rfl rfl ?_
          by_cases q173 : ((48 : Int)) ≤ ((xL.toNat : Int))
          ·refine y_leq (b := true) H rfl rfl (decide_eq_true (by omega)) rfl fun a H => y_on H rfl rfl ?_
           refine y_move H rfl rfl fun a H => y_on H rfl rfl ?_
           refine y_move H rfl rfl fun a H => y_on H rfl rfl ?_
           refine y_idx Tryz.underlying22 info5u H rfl rfl hvS (by decide) rfl rfl fun a ad H hc174 => ?_
           refine y_on H rfl rfl ?_
           refine y_load one5 H rfl hc174 rfl fun a H => y_on H rfl rfl ?_
           refine y_leq (b := false) H rfl rfl (decide_eq_false (by omega)) rfl fun a H => y_on H rfl rfl ?_
           refine y_pick H rfl rfl rfl fun a H => y_on H rfl rfl ?_
           refine y_move H rfl rfl fun a H => y_on H rfl rfl ?_
           refine y_move H rfl rfl fun a H => y_on H rfl rfl ?_
           refine y_idx Tryz.underlying22 info5u H rfl rfl hvS (by decide) rfl rfl fun a ad H hc175 => ?_
           refine y_on H rfl rfl ?_
           refine y_load one5 H rfl hc175 rfl fun a H => y_on H rfl rfl ?_
           by_cases q176 : ((97 : Int)) ≤ ((xL.toNat : Int))
           ·refine y_leq (b := true) H rfl rfl (decide_eq_true (by omega)) rfl fun a H => y_on H rfl rfl ?_
            refine y_move H rfl rfl fun a H => y_on H rfl rfl ?_
            refine y_move H rfl rfl fun a H => y_on H rfl rfl ?_
            refine y_idx Tryz.underlying22 info5u H rfl rfl hvS (by decide) rfl rfl fun a ad H hc177 => ?_
            refine y_on H rfl rfl ?_
            refine y_load one5 H rfl hc177 rfl fun a H => y_on H rfl rfl ?_
            refine y_leq (b := false) H rfl rfl (decide_eq_false (by omega)) rfl fun a H => y_on H rfl rfl ?_
            refine y_pick H rfl rfl rfl fun a H => y_on H rfl rfl ?_
            refine y_pick H rfl rfl rfl fun a H => y_on H rfl rfl ?_
            refine y_move H rfl rfl fun a H => y_on H rfl rfl ?_
            refine y_move H rfl rfl fun a H => y_on H rfl rfl ?_
            refine y_idx Tryz.underlying22 info5u H rfl rfl hvS (by decide) rfl rfl fun a ad H hc178 => ?_
            refine y_on H rfl rfl ?_
            refine y_load one5 H rfl hc178 rfl fun a H => y_on H rfl rfl ?_
            refine y_leq (b := true) H rfl rfl (decide_eq_true (by omega)) rfl fun a H => y_on H rfl rfl ?_
            refine y_move H rfl rfl fun a H => y_on H rfl rfl ?_
            refine y_move H rfl rfl fun a H => y_on H rfl rfl ?_
            refine y_idx Tryz.underlying22 info5u H rfl rfl hvS (by decide) rfl rfl fun a ad H hc179 => ?_
            refine y_on H rfl rfl ?_
            refine y_load one5 H rfl hc179 rfl fun a H => y_on H rfl rfl ?_
            refine y_leq (b := false) H rfl rfl (decide_eq_false (by omega)) rfl fun a H => y_on H rfl rfl ?_
            refine y_pick H rfl rfl rfl fun a H => y_on H rfl rfl ?_
            refine y_pick H rfl rfl rfl fun a H => y_pick H rfl rfl rfl fun a H => wpList_nil (then_normal (hK171 _ _ ?_))
            replace H := H.k8 2 3 4 5 6 7 9 102 rfl rfl rfl rfl rfl rfl rfl rfl
            refine y_iff H rfl ?_
            exact wp_exit (then_exit (then_exit (in_exit (then_normal (hJ136 _ _ (H.sub _ (sub_cons rfl (sub_cons rfl (sub_cons rfl (sub_cons rfl (sub_cons rfl (sub_cons rfl (sub_cons rfl (sub_nil))))))))) (by rw [← hd, runN_cons_no SL hp]; exact hvS))))))
           ·refine y_leq (b := false) H rfl rfl (decide_eq_false (by omega)) rfl fun a H => y_on H rfl rfl ?_
            refine y_move H rfl rfl fun a H => y_off H rfl rfl rfl fun a H => y_off H rfl rfl rfl fun a H => y_off H rfl rfl rfl fun a H => y_off H rfl rfl rfl fun a H => y_on H rfl rfl ?_
            refine y_pick H rfl rfl rfl fun a H => y_on H rfl rfl ?_
            refine y_pick H rfl rfl rfl fun a H => y_on H rfl rfl ?_
            refine y_move H rfl rfl fun a H => y_on H rfl rfl ?_
            refine y_move H rfl rfl fun a H => y_on H rfl rfl ?_
            refine y_idx Tryz.underlying22 info5u H rfl rfl hvS (by decide) rfl rfl fun a ad H hc180 => ?_
            refine y_on H rfl rfl ?_
            refine y_load one5 H rfl hc180 rfl fun a H => y_on H rfl rfl ?_
            by_cases q181 : ((65 : Int)) ≤ ((xL.toNat : Int))
            ·refine y_leq (b := true) H rfl rfl (decide_eq_true (by omega)) rfl fun a H => y_on H rfl rfl ?_
             refine y_move H rfl rfl fun a H => y_on H rfl rfl ?_
             refine y_move H rfl rfl fun a H => y_on H rfl rfl ?_
             refine y_idx Tryz.underlying22 info5u H rfl rfl hvS (by decide) rfl rfl fun a ad H hc182 => ?_
             refine y_on H rfl rfl ?_
             refine y_load one5 H rfl hc182 rfl fun a H => y_on H rfl rfl ?_
             refine y_leq (b := false) H rfl rfl (decide_eq_false (by omega)) rfl fun a H => y_on H rfl rfl ?_
             refine y_pick H rfl rfl rfl fun a H => y_on H rfl rfl ?_
             refine y_pick H rfl rfl rfl fun a H => y_pick H rfl rfl rfl fun a H => wpList_nil (then_normal (hK171 _ _ ?_))
             replace H := H.k8 2 3 4 5 6 7 9 102 rfl rfl rfl rfl rfl rfl rfl rfl
             refine y_iff H rfl ?_
             exact wp_exit (then_exit (then_exit (in_exit (then_normal (hJ136 _ _ (H.sub _ (sub_cons rfl (sub_cons rfl (sub_cons rfl (sub_cons rfl (sub_cons rfl (sub_cons rfl (sub_cons rfl (sub_nil))))))))) (by rw [← hd, runN_cons_no SL hp]; exact hvS))))))
            ·refine y_leq (b := false) H rfl rfl (decide_eq_false (by omega)) rfl fun a H => y_on H rfl rfl ?_
             refine y_move H rfl rfl fun a H => y_off H rfl rfl rfl fun a H => y_off H rfl rfl rfl fun a H => y_off H rfl rfl rfl fun a H => y_off H rfl rfl rfl fun a H => y_on H rfl rfl ?_
             refine y_pick H rfl rfl rfl fun a H => y_on H rfl rfl ?_
             refine y_pick H rfl rfl rfl fun a H => y_pick H rfl rfl rfl fun a H => wpList_nil (then_normal (hK171 _ _ ?_))
             replace H := H.k8 2 3 4 5 6 7 9 102 rfl rfl rfl rfl rfl rfl rfl rfl
             refine y_iff H rfl ?_
             exact wp_exit (then_exit (then_exit (in_exit (then_normal (hJ136 _ _ (H.sub _ (sub_cons rfl (sub_cons rfl (sub_cons rfl (sub_cons rfl (sub_cons rfl (sub_cons rfl (sub_cons rfl (sub_nil))))))))) (by rw [← hd, runN_cons_no SL hp]; exact hvS))))))
          ·refine y_leq (b := false) H rfl rfl (decide_eq_false (by omega)) rfl fun a H => y_on H rfl rfl ?_
           refine y_move H rfl rfl fun a H => y_off H rfl rfl rfl fun a H => y_off H rfl rfl rfl fun a H => y_off H rfl rfl rfl fun a H => y_off H rfl rfl rfl fun a H => y_on H rfl rfl ?_
           refine y_pick H rfl rfl rfl fun a H => y_on H rfl rfl ?_
           refine y_move H rfl rfl fun a H => y_on H rfl rfl ?_
           refine y_move H rfl rfl fun a H => y_on H rfl rfl ?_
           refine y_idx Tryz.underlying22 info5u H rfl rfl hvS (by decide) rfl rfl fun a ad H hc183 => ?_
           refine y_on H rfl rfl ?_
           refine y_load one5 H rfl hc183 rfl fun a H => y_on H rfl rfl ?_
           refine y_leq (b := false) H rfl rfl (decide_eq_false (by omega)) rfl fun a H => y_on H rfl rfl ?_
           refine y_move H rfl rfl fun a H => y_off H rfl rfl rfl fun a H => y_off H rfl rfl rfl fun a H => y_off H rfl rfl rfl fun a H => y_off H rfl rfl rfl fun a H => y_on H rfl rfl ?_
           refine y_pick H rfl rfl rfl fun a H => y_on H rfl rfl ?_
           refine y_pick H rfl rfl rfl fun a H => y_on H rfl rfl ?_
           refine y_move H rfl rfl fun a H => y_on H rfl rfl ?_
           refine y_move H rfl rfl fun a H => y_on H rfl rfl ?_
           refine y_idx Tryz.underlying22 info5u H rfl rfl hvS (by decide) rfl rfl fun a ad H hc184 => ?_
           refine y_on H rfl rfl ?_
           refine y_load one5 H rfl hc184 rfl fun a H => y_on H rfl rfl ?_
           refine y_leq (b := false) H rfl rfl (decide_eq_false (by omega)) rfl fun a H => y_on H rfl rfl ?_
           refine y_move H rfl rfl fun a H => y_off H rfl rfl rfl fun a H => y_off H rfl rfl rfl fun a H => y_off H rfl rfl rfl fun a H => y_off H rfl rfl rfl fun a H => y_on H rfl rfl ?_
           refine y_pick H rfl rfl rfl fun a H => y_on H rfl rfl ?_
           refine y_pick H rfl rfl rfl fun a H => y_pick H rfl rfl rfl fun a H => wpList_nil (then_normal (hK171 _ _ ?_))
           replace H := H.k8 2 3 4 5 6 7 9 102 rfl rfl rfl rfl rfl rfl rfl rfl
           refine y_iff H rfl ?_
           exact wp_exit (then_exit (then_exit (in_exit (then_normal (hJ136 _ _ (H.sub _ (sub_cons rfl (sub_cons rfl (sub_cons rfl (sub_cons rfl (sub_cons rfl (sub_cons rfl (sub_cons rfl (sub_nil))))))))) (by rw [← hd, runN_cons_no SL hp]; exact hvS))))))
      | false =>
       have H := Hs130
       rw [hx] at H
       refine y_iff H rfl ?_
       refine y_seq fun K185 hK185 => ?_
       refine y_reg ?_
       refine y_move H rfl rfl fun a H => y_idx Tryz.underlying22 info5u H rfl rfl hv2 (by decide) rfl rfl fun a ad H hc186 => ?_
       refine y_load one5 H rfl hc186 rfl fun a H => ?_
       by_cases q187 : ((48 : Int)) ≤ ((d1.toNat : Int))
       ·refine y_leq (b := true) H rfl rfl (decide_eq_true (by omega)) rfl fun a H => y_move H rfl rfl fun a H => y_on H rfl rfl ?_
        refine y_move H rfl rfl fun a H => y_on H rfl rfl ?_
        refine y_idx Tryz.underlying22 info5u H rfl rfl hv2 (by decide) rfl rfl fun a ad H hc188 => ?_
        refine y_on H rfl rfl ?_
        refine y_load one5 H rfl hc188 rfl fun a H => y_on H rfl rfl ?_
        by_cases q189 : ((d1.toNat : Int)) ≤ ((55 : Int))
        ·refine y_leq (b := true) H rfl rfl (decide_eq_true (by omega)) rfl fun a H => y_pick H rfl rfl rfl fun a H => y_assign H rfl rfl fun a H => wpList_nil (then_normal (hK185 _ _ ?_))
         replace H := H.k7 2 3 4 5 6 7 113 rfl rfl rfl rfl rfl rfl rfl
         refine y_ift H rfl ?_
         refine y_seq fun K190 hK190 => ?_
         have ho : isOct d1 = true := isOct_of (by omega) (by omega)
         refine y_reg ?_
         refine y_assign H rfl rfl fun a H => wpList_nil (then_normal (hK190 _ _ ?_))
         replace H := H.k6 2 3 4 5 6 7 rfl rfl rfl rfl rfl rfl
         refine y_seq fun K191 hK191 => ?_
         refine y_reg ?_
         refine y_assign H rfl rfl fun a H => wpList_nil (then_normal (hK191 _ _ ?_))
         replace H := H.k7 2 3 4 5 6 7 10 rfl rfl rfl rfl rfl rfl rfl
         refine y_seq fun K192 hK192 => ?_
         refine y_reg ?_
         refine y_move H rfl rfl fun a H => y_from Tryz.underlying22 info5u H rfl rfl hv2 (by decide) (by first | omega | (simp; omega) | simp) rfl fun a v H hv193 => ?_
         replace hv193 : View _ _ v (l2) := hv193
         refine y_assign H rfl rfl fun a H => wpList_nil (then_normal (hK192 _ _ ?_))
         replace H := H.k7 2 3 4 5 6 7 10 rfl rfl rfl rfl rfl rfl rfl
         refine y_seq fun K194 hK194 => ?_
         have hrl195 := runN_le isOct (l2)
         have hJ195 : ∀ (a : Act) (v : Value), Has 344 [] a [(2, .pointer (some ⟨w.heap.size, 0, none⟩)), (3, .int .u8 2), (4, .int .i64 ((sz : Nat) : Int)), (5, .bool neg), (7, .int .i64 ((sep : Nat) : Int)), (6, v), (10, .int .i64 ((2 + runN isOct (l2) : Nat) : Int))] → View w1 g v ((l2).drop (runN isOct (l2))) → K194 a w1 := by
          intro a v H hv195
          refine hK194 _ _ ?_
          refine y_reg ?_
          refine y_move H rfl rfl fun a H => y_move H rfl rfl fun a H => y_addi (r := ((sz + (2 + runN isOct (l2)) : Nat) : Int)) H rfl rfl (by omega) (by omega) (by omega) rfl fun a H => y_assign H rfl rfl fun a H => wpList_nil (in_normal (then_normal (hK128 _ _ ?_)))
          replace H := H.k7 2 3 4 5 6 7 10 rfl rfl rfl rfl rfl rfl rfl
          refine y_seq fun K196 hK196 => ?_
          refine y_reg ?_
          refine y_move H rfl rfl fun a H => y_and (r := (2 : Int)) H rfl rfl (by kernel_rfl) rfl fun a H => y_gtr (b := true) H rfl rfl (by decide) rfl fun a H => wpList_nil (then_normal (hK196 _ _ ?_))
          replace H := H.k8 2 3 4 5 6 7 10 150 rfl rfl rfl rfl rfl rfl rfl rfl
          refine y_ift H rfl ?_
          refine y_seq fun K197 hK197 => ?_
          refine y_seq fun K198 hK198 => ?_
          have Hs199 := H
          rcases hS : l2.drop (runN isOct l2) with _ | ⟨x, S⟩
          ·have H := Hs199
           have hvE : View w1 g _ ([] : List UInt8) := hS ▸ hv195
           have hlE : (([] : List UInt8)).length = 0 := rfl
           refine y_reg ?_
           refine y_move H rfl rfl fun a H => y_len Tryz.underlying22 H rfl hvE rfl fun a H => y_gtr (b := false) H rfl rfl (decide_eq_false (by omega)) rfl fun a H => y_move H rfl rfl fun a H => y_off H rfl rfl rfl fun a H => y_off H rfl rfl rfl fun a H => y_off H rfl rfl rfl fun a H => y_off H rfl rfl rfl fun a H => y_off H rfl rfl rfl fun a H => y_pick H rfl rfl rfl fun a H => wpList_nil (then_normal (hK198 _ _ ?_))
           replace H := H.k8 2 3 4 5 6 7 10 160 rfl rfl rfl rfl rfl rfl rfl rfl
           refine y_iff H rfl ?_
           refine wp_skip (then_normal (hK197 _ _ ?_))
           replace H := H.k7 2 3 4 5 6 7 10 rfl rfl rfl rfl rfl rfl rfl
           refine y_seq fun K200 hK200 => ?_
           refine y_reg ?_
           refine y_move H rfl rfl fun a H => y_move H rfl rfl fun a H => y_move H rfl rfl fun a H => y_move H rfl rfl fun a H => y_bld (built_num _ _ _ _) H rfl rfl fun a H => y_storeRow (vs := [_, _, _, _]) H rfl rfl R0.out rfl (by kernel_rfl) (by simp [Value.oneCell']) fun w2 hr2 hg2 => ?_
           refine wpList_nil (then_normal (hK200 _ _ ?_))
           replace H := H.k7 2 3 4 5 6 7 10 rfl rfl rfl rfl rfl rfl rfl
           refine wp_ret (then_ret (in_ret (then_ret (?_))))
           refine num_ret H rfl hr2 (below_grow HB.out hg2 (Nat.le_refl _) HB.out.size) ?_
           rw [show Z = some ⟨2, neg, sz + (2 + runN isOct l2), sep⟩ from by rw [HN.out, numB_oct h48 hx ho, hS] <;> rfl] <;> rfl
          ·have H := Hs199
           have hvE : View w1 g _ (x :: S) := hS ▸ hv195
           have hlE : (x :: S).length = S.length + 1 := rfl
           have Hs201 := H
           cases hde : delC x with
           | true =>
            have H := Hs201
            refine y_reg ?_
            refine y_move H rfl rfl fun a H => y_len Tryz.underlying22 H rfl hvE rfl fun a H => y_gtr (b := true) H rfl rfl (decide_eq_true (by omega)) rfl fun a H => y_move H rfl rfl fun a H => y_on H rfl rfl ?_
            refine y_move H rfl rfl fun a H => y_on H rfl rfl ?_
            refine y_idx Tryz.underlying22 info5u H rfl rfl hvE (by decide) rfl rfl fun a ad H hc202 => ?_
            refine y_on H rfl rfl ?_
            refine y_load one5 H rfl hc202 rfl fun a H => y_on H rfl rfl ?_
            refine y_call pf_isDelim H rfl rfl (Calls.mono (isDelim_any x w1) ?_)
            rintro e w2 ⟨rfl, rfl⟩
            rw [hde]
            refine ⟨_, rfl, fun a H => ?_⟩
            refine y_on H rfl rfl ?_
            refine y_not H rfl rfl fun a H => y_pick H rfl rfl rfl fun a H => wpList_nil (then_normal (hK198 _ _ ?_))
            replace H := H.k8 2 3 4 5 6 7 10 160 rfl rfl rfl rfl rfl rfl rfl rfl
            refine y_iff H rfl ?_
            refine wp_skip (then_normal (hK197 _ _ ?_))
            replace H := H.k7 2 3 4 5 6 7 10 rfl rfl rfl rfl rfl rfl rfl
            refine y_seq fun K203 hK203 => ?_
            refine y_reg ?_
            refine y_move H rfl rfl fun a H => y_move H rfl rfl fun a H => y_move H rfl rfl fun a H => y_move H rfl rfl fun a H => y_bld (built_num _ _ _ _) H rfl rfl fun a H => y_storeRow (vs := [_, _, _, _]) H rfl rfl R0.out rfl (by kernel_rfl) (by simp [Value.oneCell']) fun w2 hr2 hg2 => ?_
            refine wpList_nil (then_normal (hK203 _ _ ?_))
            replace H := H.k7 2 3 4 5 6 7 10 rfl rfl rfl rfl rfl rfl rfl
            refine wp_ret (then_ret (in_ret (then_ret (?_))))
            refine num_ret H rfl hr2 (below_grow HB.out hg2 (Nat.le_refl _) HB.out.size) ?_
            rw [show Z = some ⟨2, neg, sz + (2 + runN isOct l2), sep⟩ from by rw [HN.out, numB_oct h48 hx ho, hS, endT_cons, hde] <;> rfl] <;> rfl
           | false =>
            have H := Hs201
            refine y_reg ?_
            refine y_move H rfl rfl fun a H => y_len Tryz.underlying22 H rfl hvE rfl fun a H => y_gtr (b := true) H rfl rfl (decide_eq_true (by omega)) rfl fun a H => y_move H rfl rfl fun a H => y_on H rfl rfl ?_
            refine y_move H rfl rfl fun a H => y_on H rfl rfl ?_
            refine y_idx Tryz.underlying22 info5u H rfl rfl hvE (by decide) rfl rfl fun a ad H hc204 => ?_
            refine y_on H rfl rfl ?_
            refine y_load one5 H rfl hc204 rfl fun a H => y_on H rfl rfl ?_
            refine y_call pf_isDelim H rfl rfl (Calls.mono (isDelim_any x w1) ?_)
            rintro e w2 ⟨rfl, rfl⟩
            rw [hde]
            refine ⟨_, rfl, fun a H => ?_⟩
            refine y_on H rfl rfl ?_
            refine y_not H rfl rfl fun a H => y_pick H rfl rfl rfl fun a H => wpList_nil (then_normal (hK198 _ _ ?_))
            replace H := H.k8 2 3 4 5 6 7 10 160 rfl rfl rfl rfl rfl rfl rfl rfl
            refine y_ift H rfl ?_
            refine y_seq fun K205 hK205 => ?_
            refine y_reg ?_
            refine y_bld built_num0 H rfl rfl fun a H => y_storeRow (vs := [_, _, _, _]) H rfl rfl R0.out rfl (by kernel_rfl) (by simp [Value.oneCell']) fun w2 hr2 hg2 => ?_
            refine wpList_nil (then_normal (hK205 _ _ ?_))
            replace H := H.k7 2 3 4 5 6 7 10 rfl rfl rfl rfl rfl rfl rfl
            refine wp_ret (then_ret (then_ret (in_ret (then_ret (?_)))))
            refine num_ret H rfl hr2 (below_grow HB.out hg2 (Nat.le_refl _) HB.out.size) ?_
            rw [show Z = none from by rw [HN.out, numB_oct h48 hx ho, hS, endT_cons, hde] <;> rfl] <;> rfl
         refine wp_block ?_
         refine wp_loop (fun a wx => ∃ (nL : Nat) (SL : List UInt8) (vL : Value), Has 344 [] a [(2, .pointer (some ⟨w.heap.size, 0, none⟩)), (3, .int .u8 2), (4, .int .i64 ((sz : Nat) : Int)), (5, .bool neg), (7, .int .i64 ((sep : Nat) : Int)), (6, vL), (10, .int .i64 ((2 + nL : Nat) : Int))] ∧ View w1 g vL SL ∧ nL + runN isOct SL = runN isOct (l2) ∧ SL.drop (runN isOct SL) = (l2).drop (runN isOct (l2)) ∧ nL + SL.length = (l2).length ∧ wx = w1) (fun a _ => 2 + (l2).length - (intOf (a.eval (.tmp 10))).toNat) ?_ ?_
         ·exact ⟨0, _, _, H.sub _ (sub_cons rfl (sub_cons rfl (sub_cons rfl (sub_cons rfl (sub_cons rfl (sub_cons rfl (sub_cons rfl (sub_nil)))))))), hv193, by simp, rfl, by simp, rfl⟩
         ·rintro a wx ⟨nL, SL, vL, H, hvS, hn, hd, hl, rfl⟩
          have HE := hid (H.ev (x := .tmp 10) rfl)
          have Hs206 := H
          rcases SL with _ | ⟨xL, SL⟩
          ·have H := Hs206
           have hl0 : (([] : List UInt8)).length = 0 := rfl
           have hn0 : nL = runN isOct (l2) := by have h0 : runN isOct [] = 0 := rfl; omega
           rw [hn0] at H
           refine y_seq fun K207 hK207 => ?_
           refine y_seq fun K208 hK208 => ?_
           refine y_reg ?_
           refine y_move H rfl rfl fun a H => y_len Tryz.underlying22 H rfl hvS rfl fun a H => y_gtr (b := false) H rfl rfl (decide_eq_false (by omega)) rfl fun a H => y_move H rfl rfl fun a H => y_off H rfl rfl rfl fun a H => y_off H rfl rfl rfl fun a H => y_off H rfl rfl rfl fun a H => y_off H rfl rfl rfl fun a H => y_pick H rfl rfl rfl fun a H => y_move H rfl rfl fun a H => y_off H rfl rfl rfl fun a H => ?_
           refine y_off H rfl rfl rfl fun a H => y_off H rfl rfl rfl fun a H => y_off H rfl rfl rfl fun a H => y_pick H rfl rfl rfl fun a H => wpList_nil (then_normal (hK208 _ _ ?_))
           replace H := H.k8 2 3 4 5 6 7 10 140 rfl rfl rfl rfl rfl rfl rfl rfl
           refine y_iff H rfl ?_
           exact wp_exit (then_exit (then_exit (in_exit (then_normal (hJ195 _ _ (H.sub _ (sub_cons rfl (sub_cons rfl (sub_cons rfl (sub_cons rfl (sub_cons rfl (sub_cons rfl (sub_cons rfl (sub_nil))))))))) (by rw [← hd]; exact hvS))))))
          ·have H := Hs206
           have hlx : (xL :: SL).length = SL.length + 1 := rfl
           have bx := byte_bd xL
           have Hs209 := H
           cases hp : isOct xL with
           | true =>
            have H := Hs209
            have hq := isOct_yes hp
            refine y_seq fun K210 hK210 => ?_
            refine y_seq fun K211 hK211 => ?_
            refine y_reg ?_
            refine y_move H rfl rfl fun a H => y_len Tryz.underlying22 H rfl hvS rfl fun a H => y_gtr (b := true) H rfl rfl (decide_eq_true (by omega)) rfl fun a H => y_move H rfl rfl fun a H => y_on H rfl rfl ?_
            refine y_move H rfl rfl fun a H => y_on H rfl rfl ?_
            refine y_idx Tryz.underlying22 info5u H rfl rfl hvS (by decide) rfl rfl fun a ad H hc212 => ?_
            refine y_on H rfl rfl ?_
            refine y_load one5 H rfl hc212 rfl fun a H => y_on H rfl rfl ?_
            refine y_leq (b := true) H rfl rfl (decide_eq_true (by omega)) rfl fun a H => y_pick H rfl rfl rfl fun a H => y_move H rfl rfl fun a H => y_on H rfl rfl ?_
            refine y_move H rfl rfl fun a H => y_on H rfl rfl ?_
            refine y_idx Tryz.underlying22 info5u H rfl rfl hvS (by decide) rfl rfl fun a ad H hc213 => ?_
            refine y_on H rfl rfl ?_
            refine y_load one5 H rfl hc213 rfl fun a H => y_on H rfl rfl ?_
            refine y_leq (b := true) H rfl rfl (decide_eq_true (by omega)) rfl fun a H => y_pick H rfl rfl rfl fun a H => wpList_nil (then_normal (hK211 _ _ ?_))
            replace H := H.k8 2 3 4 5 6 7 10 140 rfl rfl rfl rfl rfl rfl rfl rfl
            refine y_ift H rfl ?_
            refine wp_skip (then_normal (hK210 _ _ ?_))
            replace H := H.k7 2 3 4 5 6 7 10 rfl rfl rfl rfl rfl rfl rfl
            refine wp_block ?_
            refine y_seq fun K214 hK214 => ?_
            refine y_reg ?_
            refine y_move H rfl rfl fun a H => y_from Tryz.underlying22 info5u H rfl rfl hvS (by decide) (by first | omega | (simp; omega) | simp) rfl fun a v H hv215 => ?_
            replace hv215 : View _ _ v (SL) := hv215
            refine y_assign H rfl rfl fun a H => wpList_nil (then_normal (hK214 _ _ ?_))
            replace H := H.k7 2 3 4 5 6 7 10 rfl rfl rfl rfl rfl rfl rfl
            refine y_reg ?_
            refine y_move H rfl rfl fun a H => y_addi (r := (((2 + nL) + 1 : Nat) : Int)) H rfl rfl (by omega) (by omega) (by omega) rfl fun a H => y_assign H rfl rfl fun a H => wpList_nil (in_normal (then_normal (⟨⟨nL + 1, SL, _, H.sub _ (sub_cons rfl (sub_cons rfl (sub_cons rfl (sub_cons rfl (sub_cons rfl (sub_cons rfl (sub_cons rfl (sub_nil)))))))), hv215, ?_, ?_, by omega, rfl⟩, ?_⟩)))
            ·have := runN_cons_yes SL hp; omega
            ·rw [← hd, runN_cons_yes SL hp] <;> rfl
            ·have h2 := H.ev (x := .tmp 10) rfl
             simp only [HE.out, h2, intOf]
             omega
           | false =>
            have H := Hs209
            have hq := isOct_no hp
            have hn0 : nL = runN isOct (l2) := by have h0 := runN_cons_no SL hp; omega
            rw [hn0] at H
            refine y_seq fun K216 hK216 => ?_
            refine y_seq fun K217 hK217 => ?_
            refine y_reg ?_
            refine y_move H rfl rfl fun a H => y_len Tryz.underlying22 H rfl hvS rfl fun a H => y_gtr (b := true) H rfl rfl (decide_eq_true (by omega)) rfl fun a H => y_move H rfl rfl fun a H => y_on H rfl rfl ?_
            refine y_move H rfl rfl fun a H => y_on H rfl rfl ?_
            refine y_idx Tryz.underlying22 info5u H rfl rfl hvS (by decide) rfl rfl fun a ad H hc218 => ?_
            refine y_on H rfl rfl ?_
            refine y_load one5 H rfl hc218 rfl fun a H => y_on H rfl rfl ?_
            by_cases q219 : ((48 : Int)) ≤ ((xL.toNat : Int))
            ·refine y_leq (b := true) H rfl rfl (decide_eq_true (by omega)) rfl fun a H => y_pick H rfl rfl rfl fun a H => y_move H rfl rfl fun a H => y_on H rfl rfl ?_
             refine y_move H rfl rfl fun a H => y_on H rfl rfl ?_
             refine y_idx Tryz.underlying22 info5u H rfl rfl hvS (by decide) rfl rfl fun a ad H hc220 => ?_
             refine y_on H rfl rfl ?_
             refine y_load one5 H rfl hc220 rfl fun a H => y_on H rfl rfl ?_
             refine y_leq (b := false) H rfl rfl (decide_eq_false (by omega)) rfl fun a H => y_pick H rfl rfl rfl fun a H => wpList_nil (then_normal (hK217 _ _ ?_))
             replace H := H.k8 2 3 4 5 6 7 10 140 rfl rfl rfl rfl rfl rfl rfl rfl
             refine y_iff H rfl ?_
             exact wp_exit (then_exit (then_exit (in_exit (then_normal (hJ195 _ _ (H.sub _ (sub_cons rfl (sub_cons rfl (sub_cons rfl (sub_cons rfl (sub_cons rfl (sub_cons rfl (sub_cons rfl (sub_nil))))))))) (by rw [← hd, runN_cons_no SL hp]; exact hvS))))))
            ·refine y_leq (b := false) H rfl rfl (decide_eq_false (by omega)) rfl fun a H => y_pick H rfl rfl rfl fun a H => y_move H rfl rfl fun a H => y_off H rfl rfl rfl fun a H => y_off H rfl rfl rfl fun a H => y_off H rfl rfl rfl fun a H => y_off H rfl rfl rfl fun a H => y_pick H rfl rfl rfl fun a H => wpList_nil (then_normal (hK217 _ _ ?_))
             replace H := H.k8 2 3 4 5 6 7 10 140 rfl rfl rfl rfl rfl rfl rfl rfl
             refine y_iff H rfl ?_
             exact wp_exit (then_exit (then_exit (in_exit (then_normal (hJ195 _ _ (H.sub _ (sub_cons rfl (sub_cons rfl (sub_cons rfl (sub_cons rfl (sub_cons rfl (sub_cons rfl (sub_cons rfl (sub_nil))))))))) (by rw [← hd, runN_cons_no SL hp]; exact hvS))))))
        ·refine y_leq (b := false) H rfl rfl (decide_eq_false (by omega)) rfl fun a H => y_pick H rfl rfl rfl fun a H => y_assign H rfl rfl fun a H => wpList_nil (then_normal (hK185 _ _ ?_))
         replace H := H.k7 2 3 4 5 6 7 113 rfl rfl rfl rfl rfl rfl rfl
         have ho : isOct d1 = false := isOct_not (by omega)
         refine y_iff H rfl ?_
         refine wp_skip (in_normal (then_normal (hK128 _ _ ?_)))
         replace H := H.k6 2 3 4 5 6 7 rfl rfl rfl rfl rfl rfl
         refine y_seq fun K221 hK221 => ?_
         refine y_reg ?_
         refine y_move H rfl rfl fun a H => y_and (r := (0 : Int)) H rfl rfl (by kernel_rfl) rfl fun a H => y_gtr (b := false) H rfl rfl (by decide) rfl fun a H => wpList_nil (then_normal (hK221 _ _ ?_))
         replace H := H.k7 2 3 4 5 6 7 150 rfl rfl rfl rfl rfl rfl rfl
         refine y_iff H rfl ?_
         refine wp_skip (then_normal (hK123 _ _ ?_))
         replace H := H.k6 2 3 4 5 6 7 rfl rfl rfl rfl rfl rfl
         refine y_seq fun K222 hK222 => ?_
         refine y_reg ?_
         refine y_move H rfl rfl fun a H => y_from Tryz.underlying22 info5u H rfl rfl hv2 (by decide) (by first | omega | (simp; omega) | simp) rfl fun a v H hv223 => ?_
         replace hv223 : View _ _ v (d1 :: l2) := hv223
         refine y_assign H rfl rfl fun a H => wpList_nil (then_normal (hK222 _ _ ?_))
         replace H := H.k6 2 3 4 5 6 7 rfl rfl rfl rfl rfl rfl
         refine y_reg ?_
         refine y_move H rfl rfl fun a H => y_addi (r := ((sz + 1 : Nat) : Int)) H rfl rfl (by omega) (by omega) (by omega) rfl fun a H => y_assign H rfl rfl fun a H => ?_
         exact wpList_nil (in_normal (then_normal (hJs _ 0 1 _ _ _ (H.sub _ (sub_cons rfl (sub_cons rfl (sub_cons rfl (sub_cons rfl (sub_cons rfl (sub_cons rfl (sub_nil)))))))) hv223 (.inl rfl) rfl (by simp; try omega) (hid (numB_zero2 h48 hx ho)))))
       ·refine y_leq (b := false) H rfl rfl (decide_eq_false (by omega)) rfl fun a H => y_move H rfl rfl fun a H => y_off H rfl rfl rfl fun a H => y_off H rfl rfl rfl fun a H => y_off H rfl rfl rfl fun a H => y_off H rfl rfl rfl fun a H => y_pick H rfl rfl rfl fun a H => y_assign H rfl rfl fun a H => wpList_nil (then_normal (hK185 _ _ ?_))
        replace H := H.k7 2 3 4 5 6 7 113 rfl rfl rfl rfl rfl rfl rfl
        have ho : isOct d1 = false := isOct_not (by omega)
        refine y_iff H rfl ?_
        refine wp_skip (in_normal (then_normal (hK128 _ _ ?_)))
        replace H := H.k6 2 3 4 5 6 7 rfl rfl rfl rfl rfl rfl
        refine y_seq fun K224 hK224 => ?_
        refine y_reg ?_
        refine y_move H rfl rfl fun a H => y_and (r := (0 : Int)) H rfl rfl (by kernel_rfl) rfl fun a H => y_gtr (b := false) H rfl rfl (by decide) rfl fun a H => wpList_nil (then_normal (hK224 _ _ ?_))
        replace H := H.k7 2 3 4 5 6 7 150 rfl rfl rfl rfl rfl rfl rfl
        refine y_iff H rfl ?_
        refine wp_skip (then_normal (hK123 _ _ ?_))
        replace H := H.k6 2 3 4 5 6 7 rfl rfl rfl rfl rfl rfl
        refine y_seq fun K225 hK225 => ?_
        refine y_reg ?_
        refine y_move H rfl rfl fun a H => y_from Tryz.underlying22 info5u H rfl rfl hv2 (by decide) (by first | omega | (simp; omega) | simp) rfl fun a v H hv226 => ?_
        replace hv226 : View _ _ v (d1 :: l2) := hv226
        refine y_assign H rfl rfl fun a H => wpList_nil (then_normal (hK225 _ _ ?_))
        replace H := H.k6 2 3 4 5 6 7 rfl rfl rfl rfl rfl rfl
        refine y_reg ?_
        refine y_move H rfl rfl fun a H => y_addi (r := ((sz + 1 : Nat) : Int)) H rfl rfl (by omega) (by omega) (by omega) rfl fun a H => y_assign H rfl rfl fun a H => ?_
        exact wpList_nil (in_normal (then_normal (hJs _ 0 1 _ _ _ (H.sub _ (sub_cons rfl (sub_cons rfl (sub_cons rfl (sub_cons rfl (sub_cons rfl (sub_cons rfl (sub_nil)))))))) hv226 (.inl rfl) rfl (by simp; try omega) (hid (numB_zero2 h48 hx ho)))))
     refine y_reg ?_
     refine y_move H rfl rfl fun a H => y_idx Tryz.underlying22 info5u H rfl rfl hv2 (by decide) rfl rfl fun a ad H hc227 => ?_
     refine y_load one5 H rfl hc227 rfl fun a H => ?_
     by_cases q228 : ((d1.toNat : Int)) = ((120 : Int))
     ·refine y_eql (b := true) H rfl rfl (ieq_t (by omega)) rfl fun a H => y_move H rfl rfl fun a H => y_off H rfl rfl rfl fun a H => y_off H rfl rfl rfl fun a H => y_off H rfl rfl rfl fun a H => y_off H rfl rfl rfl fun a H => y_pick H rfl rfl rfl fun a H => y_assign H rfl rfl fun a H => ?_
      exact wpList_nil (then_normal (hJx _ (by rw [show xB d1 = true from xB_t (by omega)]; exact H.sub _ (sub_cons rfl (sub_cons rfl (sub_cons rfl (sub_cons rfl (sub_cons rfl (sub_cons rfl (sub_cons rfl (sub_nil)))))))))))
     ·refine y_eql (b := false) H rfl rfl (ieq_f (by omega)) rfl fun a H => y_move H rfl rfl fun a H => y_on H rfl rfl ?_
      refine y_move H rfl rfl fun a H => y_on H rfl rfl ?_
      refine y_idx Tryz.underlying22 info5u H rfl rfl hv2 (by decide) rfl rfl fun a ad H hc229 => ?_
      refine y_on H rfl rfl ?_
      refine y_load one5 H rfl hc229 rfl fun a H => y_on H rfl rfl ?_
      by_cases q230 : ((d1.toNat : Int)) = ((88 : Int))
      ·refine y_eql (b := true) H rfl rfl (ieq_t (by omega)) rfl fun a H => y_pick H rfl rfl rfl fun a H => y_assign H rfl rfl fun a H => ?_
       exact wpList_nil (then_normal (hJx _ (by rw [show xB d1 = true from xB_t (by omega)]; exact H.sub _ (sub_cons rfl (sub_cons rfl (sub_cons rfl (sub_cons rfl (sub_cons rfl (sub_cons rfl (sub_cons rfl (sub_nil)))))))))))
      ·refine y_eql (b := false) H rfl rfl (ieq_f (by omega)) rfl fun a H => y_pick H rfl rfl rfl fun a H => y_assign H rfl rfl fun a H => ?_
       exact wpList_nil (then_normal (hJx _ (by rw [show xB d1 = false from xB_f (by omega)]; exact H.sub _ (sub_cons rfl (sub_cons rfl (sub_cons rfl (sub_cons rfl (sub_cons rfl (sub_cons rfl (sub_cons rfl (sub_nil)))))))))))
   ·refine y_eql (b := false) H rfl rfl (ieq_f (by omega)) rfl fun a H => y_assign H rfl rfl fun a H => wpList_nil (then_normal (hK120 _ _ ?_))
    replace H := H.k7 2 3 4 5 6 7 43 rfl rfl rfl rfl rfl rfl rfl
    refine y_iff H rfl ?_
    refine y_seq fun K231 hK231 => ?_
    refine y_reg ?_
    refine y_move H rfl rfl fun a H => y_idx Tryz.underlying22 info5u H rfl rfl hv2 (by decide) rfl rfl fun a ad H hc232 => ?_
    refine y_load one5 H rfl hc232 rfl fun a H => ?_
    by_cases q233 : ((49 : Int)) ≤ ((c1.toNat : Int))
    ·refine y_leq (b := true) H rfl rfl (decide_eq_true (by omega)) rfl fun a H => y_move H rfl rfl fun a H => y_on H rfl rfl ?_
     refine y_move H rfl rfl fun a H => y_on H rfl rfl ?_
     refine y_idx Tryz.underlying22 info5u H rfl rfl hv2 (by decide) rfl rfl fun a ad H hc234 => ?_
     refine y_on H rfl rfl ?_
     refine y_load one5 H rfl hc234 rfl fun a H => y_on H rfl rfl ?_
     by_cases q235 : ((c1.toNat : Int)) ≤ ((57 : Int))
     ·refine y_leq (b := true) H rfl rfl (decide_eq_true (by omega)) rfl fun a H => y_pick H rfl rfl rfl fun a H => y_assign H rfl rfl fun a H => wpList_nil (then_normal (hK231 _ _ ?_))
      replace H := H.k7 2 3 4 5 6 7 171 rfl rfl rfl rfl rfl rfl rfl
      refine y_ift H rfl ?_
      refine y_seq fun K236 hK236 => ?_
      refine y_reg ?_
      refine y_assign H rfl rfl fun a H => wpList_nil (then_normal (hK236 _ _ ?_))
      replace H := H.k7 2 3 4 5 6 7 11 rfl rfl rfl rfl rfl rfl rfl
      refine y_seq fun K237 hK237 => ?_
      refine y_reg ?_
      refine y_move H rfl rfl fun a H => y_from Tryz.underlying22 info5u H rfl rfl hv2 (by decide) (by first | omega | (simp; omega) | simp) rfl fun a v H hv238 => ?_
      replace hv238 : View _ _ v (l1) := hv238
      refine y_assign H rfl rfl fun a H => wpList_nil (then_normal (hK237 _ _ ?_))
      replace H := H.k7 2 3 4 5 6 7 11 rfl rfl rfl rfl rfl rfl rfl
      refine y_seq fun K239 hK239 => ?_
      have hrl240 := runN_le isDg (l1)
      have hJ240 : ∀ (a : Act) (v : Value), Has 344 [] a [(2, .pointer (some ⟨w.heap.size, 0, none⟩)), (3, .int .u8 0), (4, .int .i64 ((sz : Nat) : Int)), (5, .bool neg), (7, .int .i64 ((sep : Nat) : Int)), (6, v), (11, .int .i64 ((1 + runN isDg (l1) : Nat) : Int))] → View w1 g v ((l1).drop (runN isDg (l1))) → K239 a w1 := by
       intro a v H hv240
       refine hK239 _ _ ?_
       refine y_reg ?_
       refine y_move H rfl rfl fun a H => y_move H rfl rfl fun a H => y_addi (r := ((sz + (1 + runN isDg (l1)) : Nat) : Int)) H rfl rfl (by omega) (by omega) (by omega) rfl fun a H => y_assign H rfl rfl fun a H => ?_
       exact wpList_nil (in_normal (then_normal (hJs _ 0 _ _ _ _ (H.sub _ (sub_cons rfl (sub_cons rfl (sub_cons rfl (sub_cons rfl (sub_cons rfl (sub_cons rfl (sub_nil)))))))) hv240 (.inl rfl) rfl (by have := List.length_drop (i := runN isDg l1) (l := l1); have := runN_le isDg l1; omega) (hid (numB_dg l1 (by omega) (by omega))))))
      refine wp_block ?_
      refine wp_loop (fun a wx => ∃ (nL : Nat) (SL : List UInt8) (vL : Value), Has 344 [] a [(2, .pointer (some ⟨w.heap.size, 0, none⟩)), (3, .int .u8 0), (4, .int .i64 ((sz : Nat) : Int)), (5, .bool neg), (7, .int .i64 ((sep : Nat) : Int)), (6, vL), (11, .int .i64 ((1 + nL : Nat) : Int))] ∧ View w1 g vL SL ∧ nL + runN isDg SL = runN isDg (l1) ∧ SL.drop (runN isDg SL) = (l1).drop (runN isDg (l1)) ∧ nL + SL.length = (l1).length ∧ wx = w1) (fun a _ => 1 + (l1).length - (intOf (a.eval (.tmp 11))).toNat) ?_ ?_
      ·exact ⟨0, _, _, H.sub _ (sub_cons rfl (sub_cons rfl (sub_cons rfl (sub_cons rfl (sub_cons rfl (sub_cons rfl (sub_cons rfl (sub_nil)))))))), hv238, by simp, rfl, by simp, rfl⟩
      ·rintro a wx ⟨nL, SL, vL, H, hvS, hn, hd, hl, rfl⟩
       have HE := hid (H.ev (x := .tmp 11) rfl)
       have Hs241 := H
       rcases SL with _ | ⟨xL, SL⟩
       ·have H := Hs241
        have hl0 : (([] : List UInt8)).length = 0 := rfl
        have hn0 : nL = runN isDg (l1) := by have h0 : runN isDg [] = 0 := rfl; omega
        rw [hn0] at H
        refine y_seq fun K242 hK242 => ?_
        refine y_seq fun K243 hK243 => ?_
        refine y_reg ?_
        refine y_move H rfl rfl fun a H => y_len Tryz.underlying22 H rfl hvS rfl fun a H => y_gtr (b := false) H rfl rfl (decide_eq_false (by omega)) rfl fun a H => y_move H rfl rfl fun a H => y_off H rfl rfl rfl fun a H => y_off H rfl rfl rfl fun a H => y_off H rfl rfl rfl fun a H => y_off H rfl rfl rfl fun a H => y_pick H rfl rfl rfl fun a H => y_move H rfl rfl fun a H => y_off H rfl rfl rfl fun a H => ?_
        refine y_off H rfl rfl rfl fun a H => y_off H rfl rfl rfl fun a H => y_off H rfl rfl rfl fun a H => y_pick H rfl rfl rfl fun a H => wpList_nil (then_normal (hK243 _ _ ?_))
        replace H := H.k8 2 3 4 5 6 7 11 198 rfl rfl rfl rfl rfl rfl rfl rfl
        refine y_iff H rfl ?_
        exact wp_exit (then_exit (then_exit (in_exit (then_normal (hJ240 _ _ (H.sub _ (sub_cons rfl (sub_cons rfl (sub_cons rfl (sub_cons rfl (sub_cons rfl (sub_cons rfl (sub_cons rfl (sub_nil))))))))) (by rw [← hd]; exact hvS))))))
       ·have H := Hs241
        have hlx : (xL :: SL).length = SL.length + 1 := rfl
        have bx := byte_bd xL
        have Hs244 := H
        cases hp : isDg xL with
        | true =>
         have H := Hs244
         have hq := isDg_yes hp
         refine y_seq fun K245 hK245 => ?_
         refine y_seq fun K246 hK246 => ?_
         refine y_reg ?_
         refine y_move H rfl rfl fun a H => y_len Tryz.underlying22 H rfl hvS rfl fun a H => y_gtr (b := true) H rfl rfl (decide_eq_true (by omega)) rfl fun a H => y_move H rfl rfl fun a H => y_on H rfl rfl ?_
         refine y_move H rfl rfl fun a H => y_on H rfl rfl ?_
         refine y_idx Tryz.underlying22 info5u H rfl rfl hvS (by decide) rfl rfl fun a ad H hc247 => ?_
         refine y_on H rfl rfl ?_
         refine y_load one5 H rfl hc247 rfl fun a H => y_on H rfl rfl ?_
         refine y_leq (b := true) H rfl rfl (decide_eq_true (by omega)) rfl fun a H => y_pick H rfl rfl rfl fun a H => y_move H rfl rfl fun a H => y_on H rfl rfl ?_
         refine y_move H rfl rfl fun a H => y_on H rfl rfl ?_
         refine y_idx Tryz.underlying22 info5u H rfl rfl hvS (by decide) rfl rfl fun a ad H hc248 => ?_
         refine y_on H rfl rfl ?_
         refine y_load one5 H rfl hc248 rfl fun a H => y_on H rfl rfl ?_
         refine y_leq (b := true) H rfl rfl (decide_eq_true (by omega)) rfl fun a H => y_pick H rfl rfl rfl fun a H => wpList_nil (then_normal (hK246 _ _ ?_))
         replace H := H.k8 2 3 4 5 6 7 11 198 rfl rfl rfl rfl rfl rfl rfl rfl
         refine y_ift H rfl ?_
         refine wp_skip (then_normal (hK245 _ _ ?_))
         replace H := H.k7 2 3 4 5 6 7 11 rfl rfl rfl rfl rfl rfl rfl
         refine wp_block ?_
         refine y_seq fun K249 hK249 => ?_
         refine y_reg ?_
         refine y_move H rfl rfl fun a H => y_from Tryz.underlying22 info5u H rfl rfl hvS (by decide) (by first | omega | (simp; omega) | simp) rfl fun a v H hv250 => ?_
         replace hv250 : View _ _ v (SL) := hv250
         refine y_assign H rfl rfl fun a H => wpList_nil (then_normal (hK249 _ _ ?_))
         replace H := H.k7 2 3 4 5 6 7 11 rfl rfl rfl rfl rfl rfl rfl
         refine y_reg ?_
         refine y_move H rfl rfl fun a H => y_addi (r := (((1 + nL) + 1 : Nat) : Int)) H rfl rfl (by omega) (by omega) (by omega) rfl fun a H => y_assign H rfl rfl fun a H => wpList_nil (in_normal (then_normal (⟨⟨nL + 1, SL, _, H.sub _ (sub_cons rfl (sub_cons rfl (sub_cons rfl (sub_cons rfl (sub_cons rfl (sub_cons rfl (sub_cons rfl (sub_nil)))))))), hv250, ?_, ?_, by omega, rfl⟩, ?_⟩)))
         ·have := runN_cons_yes SL hp; omega
         ·rw [← hd, runN_cons_yes SL hp] <;> rfl
         ·have h2 := H.ev (x := .tmp 11) rfl
          simp only [HE.out, h2, intOf]
          omega
        | false =>
         have H := Hs244
         have hq := isDg_no hp
         have hn0 : nL = runN isDg (l1) := by have h0 := runN_cons_no SL hp; omega
         rw [hn0] at H
         refine y_seq fun K251 hK251 => ?_
         refine y_seq fun K252 hK252 => ?_
         refine y_reg ?_
         refine y_move H rfl rfl fun a H => y_len Tryz.underlying22 H rfl hvS rfl fun a H => y_gtr (b := true) H rfl rfl (decide_eq_true (by omega)) rfl fun a H => y_move H rfl rfl fun a H => y_on H rfl rfl ?_
         refine y_move H rfl rfl fun a H => y_on H rfl rfl ?_
         refine y_idx Tryz.underlying22 info5u H rfl rfl hvS (by decide) rfl rfl fun a ad H hc253 => ?_
         refine y_on H rfl rfl ?_
         refine y_load one5 H rfl hc253 rfl fun a H => y_on H rfl rfl ?_
         by_cases q254 : ((48 : Int)) ≤ ((xL.toNat : Int))
         ·refine y_leq (b := true) H rfl rfl (decide_eq_true (by omega)) rfl fun a H => y_pick H rfl rfl rfl fun a H => y_move H rfl rfl fun a H => y_on H rfl rfl ?_
          refine y_move H rfl rfl fun a H => y_on H rfl rfl ?_
          refine y_idx Tryz.underlying22 info5u H rfl rfl hvS (by decide) rfl rfl fun a ad H hc255 => ?_
          refine y_on H rfl rfl ?_
          refine y_load one5 H rfl hc255 rfl fun a H => y_on H rfl rfl ?_
          refine y_leq (b := false) H rfl rfl (decide_eq_false (by omega)) rfl fun a H => y_pick H rfl rfl rfl fun a H => wpList_nil (then_normal (hK252 _ _ ?_))
          replace H := H.k8 2 3 4 5 6 7 11 198 rfl rfl rfl rfl rfl rfl rfl rfl
          refine y_iff H rfl ?_
          exact wp_exit (then_exit (then_exit (in_exit (then_normal (hJ240 _ _ (H.sub _ (sub_cons rfl (sub_cons rfl (sub_cons rfl (sub_cons rfl (sub_cons rfl (sub_cons rfl (sub_cons rfl (sub_nil))))))))) (by rw [← hd, runN_cons_no SL hp]; exact hvS))))))
         ·refine y_leq (b := false) H rfl rfl (decide_eq_false (by omega)) rfl fun a H => y_pick H rfl rfl rfl fun a H => y_move H rfl rfl fun a H => y_off H rfl rfl rfl fun a H => y_off H rfl rfl rfl fun a H => y_off H rfl rfl rfl fun a H => y_off H rfl rfl rfl fun a H => y_pick H rfl rfl rfl fun a H => wpList_nil (then_normal (hK252 _ _ ?_))
          replace H := H.k8 2 3 4 5 6 7 11 198 rfl rfl rfl rfl rfl rfl rfl rfl
          refine y_iff H rfl ?_
          exact wp_exit (then_exit (then_exit (in_exit (then_normal (hJ240 _ _ (H.sub _ (sub_cons rfl (sub_cons rfl (sub_cons rfl (sub_cons rfl (sub_cons rfl (sub_cons rfl (sub_cons rfl (sub_nil))))))))) (by rw [← hd, runN_cons_no SL hp]; exact hvS))))))
     ·refine y_leq (b := false) H rfl rfl (decide_eq_false (by omega)) rfl fun a H => y_pick H rfl rfl rfl fun a H => y_assign H rfl rfl fun a H => wpList_nil (then_normal (hK231 _ _ ?_))
      replace H := H.k7 2 3 4 5 6 7 171 rfl rfl rfl rfl rfl rfl rfl
      refine y_iff H rfl ?_
      refine y_seq fun K256 hK256 => ?_
      refine y_reg ?_
      refine y_move H rfl rfl fun a H => y_idx Tryz.underlying22 info5u H rfl rfl hv2 (by decide) rfl rfl fun a ad H hc257 => ?_
      refine y_load one5 H rfl hc257 rfl fun a H => y_eql (b := false) H rfl rfl (ieq_f (by omega)) rfl fun a H => y_assign H rfl rfl fun a H => wpList_nil (then_normal (hK256 _ _ ?_))
      replace H := H.k7 2 3 4 5 6 7 206 rfl rfl rfl rfl rfl rfl rfl
      refine y_iff H rfl ?_
      refine y_seq fun K258 hK258 => ?_
      refine y_reg ?_
      refine y_bld built_num0 H rfl rfl fun a H => y_storeRow (vs := [_, _, _, _]) H rfl rfl R0.out rfl (by kernel_rfl) (by simp [Value.oneCell']) fun w2 hr2 hg2 => ?_
      refine wpList_nil (then_normal (hK258 _ _ ?_))
      replace H := H.k6 2 3 4 5 6 7 rfl rfl rfl rfl rfl rfl
      refine wp_ret (in_ret (then_ret (?_)))
      refine num_ret H rfl hr2 (below_grow HB.out hg2 (Nat.le_refl _) HB.out.size) ?_
      rw [show Z = none from by rw [HN.out, numB_no (by omega) (by omega) (by omega)] <;> rfl] <;> rfl
    ·refine y_leq (b := false) H rfl rfl (decide_eq_false (by omega)) rfl fun a H => y_move H rfl rfl fun a H => y_off H rfl rfl rfl fun a H => y_off H rfl rfl rfl fun a H => y_off H rfl rfl rfl fun a H => y_off H rfl rfl rfl fun a H => y_pick H rfl rfl rfl fun a H => y_assign H rfl rfl fun a H => wpList_nil (then_normal (hK231 _ _ ?_))
     replace H := H.k7 2 3 4 5 6 7 171 rfl rfl rfl rfl rfl rfl rfl
     refine y_iff H rfl ?_
     refine y_seq fun K259 hK259 => ?_
     refine y_reg ?_
     refine y_move H rfl rfl fun a H => y_idx Tryz.underlying22 info5u H rfl rfl hv2 (by decide) rfl rfl fun a ad H hc260 => ?_
     refine y_load one5 H rfl hc260 rfl fun a H => ?_
     by_cases q261 : ((c1.toNat : Int)) = ((46 : Int))
     ·refine y_eql (b := true) H rfl rfl (ieq_t (by omega)) rfl fun a H => y_assign H rfl rfl fun a H => wpList_nil (then_normal (hK259 _ _ ?_))
      replace H := H.k7 2 3 4 5 6 7 206 rfl rfl rfl rfl rfl rfl rfl
      refine y_ift H rfl ?_
      refine y_reg ?_
      refine y_assign H rfl rfl fun a H => ?_
      exact wpList_nil (in_normal (then_normal (hJs _ 4 0 _ _ _ (H.sub _ (sub_cons rfl (sub_cons rfl (sub_cons rfl (sub_cons rfl (sub_cons rfl (sub_cons rfl (sub_nil)))))))) hv2 (.inr rfl) rfl (by simp) (hid (numB_pt l1 (by omega))))))
     ·refine y_eql (b := false) H rfl rfl (ieq_f (by omega)) rfl fun a H => y_assign H rfl rfl fun a H => wpList_nil (then_normal (hK259 _ _ ?_))
      replace H := H.k7 2 3 4 5 6 7 206 rfl rfl rfl rfl rfl rfl rfl
      refine y_iff H rfl ?_
      refine y_seq fun K262 hK262 => ?_
      refine y_reg ?_
      refine y_bld built_num0 H rfl rfl fun a H => y_storeRow (vs := [_, _, _, _]) H rfl rfl R0.out rfl (by kernel_rfl) (by simp [Value.oneCell']) fun w2 hr2 hg2 => ?_
      refine wpList_nil (then_normal (hK262 _ _ ?_))
      replace H := H.k6 2 3 4 5 6 7 rfl rfl rfl rfl rfl rfl
      refine wp_ret (in_ret (then_ret (?_)))
      refine num_ret H rfl hr2 (below_grow HB.out hg2 (Nat.le_refl _) HB.out.size) ?_
      rw [show Z = none from by rw [HN.out, numB_no (by omega) (by omega) (by omega)] <;> rfl] <;> rfl
  by_cases h45 : c.toNat = 45
  ·rw [show ((c.toNat : Int) == 45) = true from ieq_t (by omega)] at H
   refine y_ift H rfl ?_
   refine y_seq fun K263 hK263 => ?_
   refine y_reg ?_
   refine y_assign H rfl rfl fun a H => wpList_nil (then_normal (hK263 _ _ ?_))
   replace H := H.k6 2 3 4 5 6 7 rfl rfl rfl rfl rfl rfl
   refine y_seq fun K264 hK264 => ?_
   refine y_reg ?_
   refine y_move H rfl rfl fun a H => y_from Tryz.underlying22 info5u H rfl rfl hv1 (by decide) (by first | omega | (simp; omega) | simp) rfl fun a v H hv265 => ?_
   replace hv265 : View _ _ v (l) := hv265
   refine y_assign H rfl rfl fun a H => wpList_nil (then_normal (hK264 _ _ ?_))
   replace H := H.k6 2 3 4 5 6 7 rfl rfl rfl rfl rfl rfl
   refine y_seq fun K266 hK266 => ?_
   refine y_reg ?_
   refine y_move H rfl rfl fun a H => y_addi (r := ((1 : Nat) : Int)) H rfl rfl (by omega) (by omega) (by omega) rfl fun a H => y_assign H rfl rfl fun a H => wpList_nil (then_normal (hK266 _ _ ?_))
   replace H := H.k6 2 3 4 5 6 7 rfl rfl rfl rfl rfl rfl
   refine y_seq fun K267 hK267 => ?_
   refine y_reg ?_
   refine y_move H rfl rfl fun a H => y_len Tryz.underlying22 H rfl hv265 rfl fun a H => y_assign H rfl rfl fun a H => wpList_nil (then_normal (hK267 _ _ ?_))
   replace H := H.k7 2 3 4 5 6 7 8 rfl rfl rfl rfl rfl rfl rfl
   refine y_seq fun K268 hK268 => ?_
   refine y_reg ?_
   refine y_move H rfl rfl fun a H => ?_
   have HC := consumeV_any _ l 0 g w1 hv265 (Nat.zero_le _) (by omega)
   simp only [List.drop_zero, Nat.zero_add] at HC
   refine y_call pf_consume H rfl rfl (Calls.mono HC ?_)
   rintro e w2 ⟨v3, rfl, hv3, rfl⟩
   refine ⟨_, rfl, fun a H => ?_⟩
   have hdl : (l.drop (skT false l)).length = l.length - skT false l := List.length_drop
   have hsk := skT_le false l
   refine y_assign H rfl rfl fun a H => wpList_nil (then_normal (hK268 _ _ ?_))
   replace H := H.k7 2 3 4 5 6 7 8 rfl rfl rfl rfl rfl rfl rfl
   refine y_seq fun K269 hK269 => ?_
   refine y_reg ?_
   refine y_move H rfl rfl fun a H => y_move H rfl rfl fun a H => y_len Tryz.underlying22 H rfl hv3 rfl fun a H => y_subi (r := ((skT false l : Nat) : Int)) H rfl rfl (by omega) (by omega) (by omega) rfl fun a H => y_assign H rfl rfl fun a H => wpList_nil (then_normal (hK269 _ _ ?_))
   replace H := H.k6 2 3 4 5 6 7 rfl rfl rfl rfl rfl rfl
   refine y_seq fun K270 hK270 => ?_
   refine y_reg ?_
   refine y_move H rfl rfl fun a H => y_move H rfl rfl fun a H => y_addi (r := ((1 + (skT false l) : Nat) : Int)) H rfl rfl (by omega) (by omega) (by omega) rfl fun a H => y_assign H rfl rfl fun a H => wpList_nil (then_normal (hK270 _ _ ?_))
   replace H := H.k6 2 3 4 5 6 7 rfl rfl rfl rfl rfl rfl
   refine y_seq fun K271 hK271 => ?_
   have Hs272 := H
   rcases hS : l.drop (skT false l) with _ | ⟨c2, l2⟩
   ·have H := Hs272
    rw [hS] at hv3 hdl
    have hl2 : (([] : List UInt8)).length = 0 := rfl
    refine y_reg ?_
    refine y_move H rfl rfl fun a H => y_len Tryz.underlying22 H rfl hv3 rfl fun a H => y_eql (b := true) H rfl rfl (ieq_t (by omega)) rfl fun a H => wpList_nil (then_normal (hK271 _ _ ?_))
    replace H := H.k7 2 3 4 5 6 7 40 rfl rfl rfl rfl rfl rfl rfl
    refine y_ift H rfl ?_
    refine y_seq fun K273 hK273 => ?_
    refine y_reg ?_
    refine y_bld built_num0 H rfl rfl fun a H => y_storeRow (vs := [_, _, _, _]) H rfl rfl R0.out rfl (by kernel_rfl) (by simp [Value.oneCell']) fun w2 hr2 hg2 => ?_
    refine wpList_nil (then_normal (hK273 _ _ ?_))
    replace H := H.k6 2 3 4 5 6 7 rfl rfl rfl rfl rfl rfl
    refine wp_ret (then_ret (?_))
    refine num_ret H rfl hr2 (below_grow HB.out hg2 (Nat.le_refl _) HB.out.size) ?_
    rw [show Z = none from by rw [← HZ.out, numT_minus l h45, hS] <;> rfl] <;> rfl
   ·have H := Hs272
    rw [hS] at hv3 hdl
    have hl2 : (c2 :: l2).length = l2.length + 1 := rfl
    refine y_reg ?_
    refine y_move H rfl rfl fun a H => y_len Tryz.underlying22 H rfl hv3 rfl fun a H => y_eql (b := false) H rfl rfl (ieq_f (by omega)) rfl fun a H => wpList_nil (then_normal (hK271 _ _ ?_))
    replace H := H.k7 2 3 4 5 6 7 40 rfl rfl rfl rfl rfl rfl rfl
    refine y_iff H rfl ?_
    exact wp_skip (then_normal (hJ0 _ _ _ _ _ _ _ (H.sub _ (sub_cons rfl (sub_cons rfl (sub_cons rfl (sub_cons rfl (sub_cons rfl (sub_cons rfl (sub_nil)))))))) hv3 (by omega) (hid (by rw [← HZ.out, numT_minus l h45, hS]))))
  ·rw [show ((c.toNat : Int) == 45) = false from ieq_f (by omega)] at H
   refine y_iff H rfl ?_
   exact wp_skip (then_normal (hJ0 _ 0 0 _ _ _ _ (H.sub _ (sub_cons rfl (sub_cons rfl (sub_cons rfl (sub_cons rfl (sub_cons rfl (sub_cons rfl (sub_nil)))))))) hv1 (by omega) (hid (by rw [← HZ.out]; exact numT_plain l h45))))
end Go.Proofs.YtgdnpnipahegaaaGreatDoor
