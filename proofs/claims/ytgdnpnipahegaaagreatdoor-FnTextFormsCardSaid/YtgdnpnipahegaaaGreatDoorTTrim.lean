/-
 bytes.TrimLeft of digits of base 8, and of base 16: how many bytes are left.
-/
import Derived.Test.YtgdnpnipahegaaaGreatDoorQ6
import Derived.Test.YtgdnpnipahegaaaGreatDoorQ4
namespace Go.Proofs.YtgdnpnipahegaaaGreatDoor
open Go.ChangeShapes Go.WideShapes Go.ChangeAt Go.RowKit
def Qq:List UInt8:=[48,49,50,51,52,53,54,55]
def Oh:List UInt8:=[48,49,50,51,52,53,54,55,56,57,97,98,99,100,101,102,65,66,67,68,69,70]
theorem QY:∀ c:Fin 256,Qq.contains (UInt8.ofNat c.val) = AG (UInt8.ofNat c.val)∧Oh.contains (UInt8.ofNat c.val) = AQ (UInt8.ofNat c.val):=by decide +kernel
theorem set_oct (c:UInt8):Qq.contains c = AG c:=by have:=(QY ⟨c.toNat,c.toNat_lt⟩).1; simpa using this
theorem set_hex (c:UInt8):Oh.contains c = AQ c:=by have:=(QY ⟨c.toNat,c.toNat_lt⟩).2; simpa using this
theorem MR (p:UInt8→Bool) (cs:List UInt8) (h:∀ c,cs.contains c = p c):∀ l:List UInt8,(Lib.trimLeftS l cs).length = l.length - As p l
 | []=>rfl
 | c::l=>by
  have ih:=MR p cs h l;have hl:=Bp p l;unfold Lib.trimLeftS at ih ⊢;rw [BE,List.dropWhile_cons,h]
  cases hp:p c with
  | false=>simp
  | true=>simp only [if_true]; rw [ih,List.length_cons]; omega
def LenRes (n:Nat) (w:World) (e:Ending) (w':World):Prop:=∃ ao c,e = .returned (.slice ao n c)∧Below w.heap.size w w'
theorem JJ (p:UInt8→Bool) (cs:List UInt8) (hcs:∀ c,cs.contains c = p c) (hlen:cs.length≤100) (hasc:cs.all (fun c=>decide (c.toNat < 128)) = true) (v:Value) (l:List UInt8) (g:Nat) (w:World) (hv:View w g v l) :
  Calls Tryz.prog 83 #[v,.string ⟨cs.toArray⟩] w (LenRes (l.length - As p l) w):=by
 obtain ⟨ao,cap,rfl,h1,h2,h3,off,h4,h5⟩:=hv;have hsz:(⟨cs.toArray⟩:ByteArray).size = cs.length:=Ed cs
 have h:=Tryz.bytes_TrimLeft ao l.length cap l ⟨cs.toArray⟩ w rfl h1 (by unfold maxLen at h2; exact h2) (fun h0=>⟨g,off,h4 (List.length_pos_iff.1 h0),fun i hi=>by rw [h5 i hi]; simp [List.getD_eq_getElem?_getD,hi]⟩) (by rw [hsz]; omega) (fun j b hj=>by
  have hb:b ∈ cs:=List.mem_of_getElem? (by simpa using hj)
  simpa using List.all_eq_true.1 hasc b hb)
 refine h.mono fun e w' ⟨he,hb⟩=>?_;have hz:=MR p cs hcs l;have hl:=Bp p l;rw [show (⟨cs.toArray⟩:ByteArray).data.toList = cs by simp,hz] at he
 have e:l.length - (l.length - As p l) = As p l:=by omega
 rw [e] at he;unfold Lib.leftV at he;subst he
 by_cases hz0:As p l = l.length
 ·rw [if_pos hz0,hz0,Nat.sub_self];exact ⟨none,0,rfl,hb⟩
 ·rw [if_neg hz0];exact ⟨_,_,rfl,hb⟩
end Go.Proofs.YtgdnpnipahegaaaGreatDoor
