/-
  The reference's writer of JSON, walked: the character that bytes are; the short escape of a character.
-/
import Derived.Test.YtjkmmhnhhiopiaaJEscaped
import Derived.Test.YtjkmmhnhhiopiaaUtf8SizeWalk
namespace Go.Proofs.Ytjkmmhnhhiopiaa
open Go.ChangeShapes Go.WideShapes Go.ChangeAt Go.RowKit

def runeV : List UInt8 → Nat
  | [a] => a.toNat
  | [a, b] => a.toNat % 32 * 64 + b.toNat % 64
  | [a, b, c] => a.toNat % 16 * 4096 + b.toNat % 64 * 64 + c.toNat % 64
  | [a, b, c, d] => a.toNat % 8 * 262144 + b.toNat % 64 * 4096 + c.toNat % 64 * 64 + d.toNat % 64
  | _ => 0
theorem runeV_of {l : List UInt8} {c n : Nat} (h : u8char l = some (c, n)) : runeV (l.take n) = c := by
  cases l with
  | nil => simp [u8char] at h
  | cons a l =>
    rw [u8char_cons] at h
    split at h
    · simp at h; obtain ⟨rfl, rfl⟩ := h; rfl
    · rcases hh : u8head a.toNat with _ | ⟨n', least, first⟩
      · rw [hh] at h; cases h
      · rw [hh] at h
        simp only at h
        rcases ht : u8take n' first l with _ | v
        · rw [ht] at h; cases h
        · rw [ht] at h
          simp only at h
          split at h
          · simp at h
            obtain ⟨rfl, rfl⟩ := h
            unfold u8head at hh
            have step : ∀ (m acc : Nat) (l : List UInt8) (v : Nat), u8take (m + 1) acc l = some v → ∃ d l', l = d :: l' ∧ u8take m (acc * 64 + d.toNat % 64) l' = some v := by
              intro m acc l v h
              cases l with
              | nil => simp [u8take] at h
              | cons d l' =>
                unfold u8take at h
                split at h
                · exact ⟨d, l', rfl, h⟩
                · cases h
            repeat' split at hh
            · cases hh
              obtain ⟨b, l1, rfl, h1⟩ := step _ _ _ _ ht
              simp [u8take] at h1
              simp [runeV]; omega
            · cases hh
              obtain ⟨b, l1, rfl, h1⟩ := step _ _ _ _ ht
              obtain ⟨b2, l2, rfl, h2⟩ := step _ _ _ _ h1
              simp [u8take] at h2
              simp [runeV]; omega
            · cases hh
              obtain ⟨b, l1, rfl, h1⟩ := step _ _ _ _ ht
              obtain ⟨b2, l2, rfl, h2⟩ := step _ _ _ _ h1
              obtain ⟨b3, l3, rfl, h3⟩ := step _ _ _ _ h2
              simp [u8take] at h3
              simp [runeV]; omega
            · cases hh
          · cases h
theorem i64_or12 {x y : Int} (hx₀ : 0 ≤ x) (hx : x % 4096 = 0) (hx₁ : x < 2147483648) (h₀ : 0 ≤ y) (h₁ : y < 4096) : bits .or .i64 x y = x + y :=
  bits_join .i64 63 (by decide) wraps_i64' 12 x y hx₀ hx (by omega) h₀ h₁ (by omega)
theorem i64_or18 {x y : Int} (hx₀ : 0 ≤ x) (hx : x % 262144 = 0) (hx₁ : x < 2147483648) (h₀ : 0 ≤ y) (h₁ : y < 262144) : bits .or .i64 x y = x + y :=
  bits_join .i64 63 (by decide) wraps_i64' 18 x y hx₀ hx (by omega) h₀ h₁ (by omega)

def Drawn (v : Value) (w : World) (e : Ending) (w' : World) : Prop := e = .returned v ∧ Below w.heap.size w w'
set_option maxRecDepth 100000 in
set_option maxHeartbeats 1000000 in
theorem runeOf_any (v : Value) (bs : List UInt8) (g : Nat) (w : World) (hv : View w g v bs) (h1 : 1 ≤ bs.length) (h4 : bs.length ≤ 4) :
    Calls Try.prog 29 #[v] w (Drawn (.int .i64 (runeV bs)) w) := by
  have hb0 := Below.refl w.heap.size w
  obtain ⟨ao, cap, rfl, hlc, hcm, hn0, off, hao, hcell⟩ := hv
  obtain rfl := hao (by intro e; rw [e] at h1; simp at h1)
  clear hao hn0
  match bs, h1, h4 with
  | [a], _, _ =>
    have c0 : w.cell? ⟨g, off, none⟩ = some (.int .u8 (a.toNat : Int)) := hcell 0 (by simp)
    clear hcell
    have ba := byte_bd a
    have HF : Hid (runeV [a] = a.toNat) := hid rfl
    go_enter Try.func29, Try.ntmps29
    go_wp2_with fail
    go_ret
    exact ⟨by rw [HF.out]; rfl, hb0⟩
  | [a, b], _, _ =>
    have c0 : w.cell? ⟨g, off, none⟩ = some (.int .u8 (a.toNat : Int)) := hcell 0 (by simp)
    have c1 : w.cell? ⟨g, off + 1, none⟩ = some (.int .u8 (b.toNat : Int)) := hcell 1 (by simp)
    clear hcell
    have ba := byte_bd a
    have bb := byte_bd b
    have a1 := b_and31 a
    have a2 := b_and63 b
    have HF : Hid (runeV [a, b] = a.toNat % 32 * 64 + b.toNat % 64) := hid rfl
    have o1 := i64_or6 (x := (a.toNat : Int) % 32 * 64) (y := (b.toNat : Int) % 64) (by omega) (by omega) (by omega) (by omega) (by omega)
    go_enter Try.func29, Try.ntmps29
    go_wp2_with fail
    go_quiet (fail)
    go_wp2_with fail
    go_ret
    exact ⟨by rw [HF.out]; first | rfl | (congr 2; omega), below_dq hb0 _⟩
  | [a, b, c], _, _ =>
    have c0 : w.cell? ⟨g, off, none⟩ = some (.int .u8 (a.toNat : Int)) := hcell 0 (by simp)
    have c1 : w.cell? ⟨g, off + 1, none⟩ = some (.int .u8 (b.toNat : Int)) := hcell 1 (by simp)
    have c2 : w.cell? ⟨g, off + 2, none⟩ = some (.int .u8 (c.toNat : Int)) := hcell 2 (by simp)
    clear hcell
    have ba := byte_bd a
    have bb := byte_bd b
    have bc := byte_bd c
    have a1 := b_and15 a
    have a2 := b_and63 b
    have a3 := b_and63 c
    have HF : Hid (runeV [a, b, c] = a.toNat % 16 * 4096 + b.toNat % 64 * 64 + c.toNat % 64) := hid rfl
    have o1 := i64_or12 (x := (a.toNat : Int) % 16 * 4096) (y := (b.toNat : Int) % 64 * 64) (by omega) (by omega) (by omega) (by omega) (by omega)
    have o2 := i64_or6 (x := (a.toNat : Int) % 16 * 4096 + (b.toNat : Int) % 64 * 64) (y := (c.toNat : Int) % 64) (by omega) (by omega) (by omega) (by omega) (by omega)
    go_enter Try.func29, Try.ntmps29
    go_wp2_with fail
    go_quiet (fail)
    go_wp2_with fail
    go_ret
    exact ⟨by rw [HF.out]; first | rfl | (congr 2; omega), below_dq hb0 _⟩
  | [a, b, c, d], _, _ =>
    have c0 : w.cell? ⟨g, off, none⟩ = some (.int .u8 (a.toNat : Int)) := hcell 0 (by simp)
    have c1 : w.cell? ⟨g, off + 1, none⟩ = some (.int .u8 (b.toNat : Int)) := hcell 1 (by simp)
    have c2 : w.cell? ⟨g, off + 2, none⟩ = some (.int .u8 (c.toNat : Int)) := hcell 2 (by simp)
    have c3 : w.cell? ⟨g, off + 3, none⟩ = some (.int .u8 (d.toNat : Int)) := hcell 3 (by simp)
    clear hcell
    have ba := byte_bd a
    have bb := byte_bd b
    have bc := byte_bd c
    have bd := byte_bd d
    have a1 := b_and7 a
    have a2 := b_and63 b
    have a3 := b_and63 c
    have a4 := b_and63 d
    have HF : Hid (runeV [a, b, c, d] = a.toNat % 8 * 262144 + b.toNat % 64 * 4096 + c.toNat % 64 * 64 + d.toNat % 64) := hid rfl
    have o1 := i64_or18 (x := (a.toNat : Int) % 8 * 262144) (y := (b.toNat : Int) % 64 * 4096) (by omega) (by omega) (by omega) (by omega) (by omega)
    have o2 := i64_or12 (x := (a.toNat : Int) % 8 * 262144 + (b.toNat : Int) % 64 * 4096) (y := (c.toNat : Int) % 64 * 64) (by omega) (by omega) (by omega) (by omega) (by omega)
    have o3 := i64_or6 (x := (a.toNat : Int) % 8 * 262144 + (b.toNat : Int) % 64 * 4096 + (c.toNat : Int) % 64 * 64) (y := (d.toNat : Int) % 64) (by omega) (by omega) (by omega) (by omega) (by omega)
    go_enter Try.func29, Try.ntmps29
    go_wp2_with fail
    go_quiet (fail)
    go_wp2_with fail
    go_ret
    exact ⟨by rw [HF.out]; first | rfl | (congr 2; omega), below_dq hb0 _⟩

set_option maxRecDepth 100000 in
set_option maxHeartbeats 1000000 in
theorem shortEscape_any (c : Nat) (w : World) (hc : c < 2147483648) :
    Calls Try.prog 30 #[.int .i64 c] w fun e w' => e = .returned (.int .u8 (shortE c)) ∧ w = w' := by
  by_cases h : c = 34 ∨ c = 92 ∨ c = 47 ∨ c = 8 ∨ c = 12 ∨ c = 10 ∨ c = 13 ∨ c = 9
  · rcases h with rfl | rfl | rfl | rfl | rfl | rfl | rfl | rfl
    all_goals
      go_enter Try.func30, Try.ntmps30
      go_wp2_with fail
      go_ret
      exact ⟨rfl, rfl⟩
  · have HF : Hid (shortE c = 0) := hid (by unfold shortE; rw [if_neg (by omega), if_neg (by omega), if_neg (by omega), if_neg (by omega), if_neg (by omega), if_neg (by omega)])
    have e1 : ((c : Int) == 34) = false := by simp; omega
    have e2 : ((c : Int) == 92) = false := by simp; omega
    have e3 : ((c : Int) == 47) = false := by simp; omega
    have e4 : ((c : Int) == 8) = false := by simp; omega
    have e5 : ((c : Int) == 12) = false := by simp; omega
    have e6 : ((c : Int) == 10) = false := by simp; omega
    have e7 : ((c : Int) == 13) = false := by simp; omega
    have e8 : ((c : Int) == 9) = false := by simp; omega
    clear h
    go_enter Try.func30, Try.ntmps30
    go_wp2_with fail
    go_ret
    exact ⟨by rw [HF.out]; rfl, rfl⟩
end Go.Proofs.Ytjkmmhnhhiopiaa
