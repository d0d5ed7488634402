/-
  The package's reader of JSON, walked: Read.
-/
import Derived.Test.YtjkmmhnhhiopiaaDoorDReadX
import Derived.Test.YtjkmmhnhhiopiaaDoorDReadY
import Derived.Test.YtjkmmhnhhiopiaaDoorDReadZ
namespace Go.Proofs.YtjkmmhnhhiopiaaDoor
open Go.ChangeShapes Go.WideShapes Go.ChangeAt Go.RowKit

variable {B p g : Nat} {bs : List UInt8} {vr ve vst vo vi : Value}
theorem read_core (s : DS) (w : World) (h : DW B p g bs vr ve vst vo vi s w) (hm : bs.length ≤ 10000000) (hstl : s.st.length ≤ 100000000) (hok : s.ok) (hpk : s.peeked = false)
    (hrec : s.tok.kind ≠ 1024 → ∀ (s' : DS) (vr' vst' vi' : Value) (w' : World), s'.tok.kind = 1024 → s'.ok → s'.peeked = false → s'.st.length ≤ 100000000 → DW B p g bs vr' ve vst' vo vi' s' w' →
      Calls Tryd.prog 31 #[.pointer (some ⟨p, 0, none⟩)] w' (ReadRes B p g bs vst' vo True w' (readC bs s'))) :
    Calls Tryd.prog 31 #[.pointer (some ⟨p, 0, none⟩)] w (ReadRes B p g bs vst vo True w (readF bs s)) := by
  rcases hN : nextJ (bs.drop (goN bs s.k 0)) with _ | ⟨kd, n, b, t⟩
  · exact read_coreX s w h hm hstl hok hpk (fun kd n b t e => by rw [hN] at e; cases e) hrec
  · obtain ⟨_, hkd⟩ := nextJ_ok hN
    have hk : (kd = 1 ∨ kd = 2 ∨ kd = 4 ∨ kd = 8) ∨ (kd = 16 ∨ kd = 64 ∨ kd = 256) ∨ (kd = 128 ∨ kd = 512 ∨ kd = 1024) := by rcases hkd with h1 | h1 <;> omega
    rcases hk with h1 | h1 | h1
    · exact read_coreX s w h hm hstl hok hpk (fun kd' n' b' t' e => by rw [hN] at e; injection e with e; injection e with e _; subst e; exact h1) hrec
    · exact read_coreY s w h hm hstl hok hpk (fun kd' n' b' t' e => by rw [hN] at e; injection e with e; injection e with e _; subst e; exact h1) hrec
    · exact read_coreZ s w h hm hstl hok hpk (fun kd' n' b' t' e => by rw [hN] at e; injection e with e; injection e with e _; subst e; exact h1) hrec
end Go.Proofs.YtjkmmhnhhiopiaaDoor
