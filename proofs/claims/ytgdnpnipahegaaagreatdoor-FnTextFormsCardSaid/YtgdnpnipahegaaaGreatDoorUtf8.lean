/-
 UTF-8: the characters of a text, as the laws' own check and the reference read them.
-/
import Derived.Test.YtgdnpnipahegaaaGreatDoorQ0
import Derived.Laws.BitsLemmas
import Derived.Deep.QuietTactic
import Derived.BigQuiet
namespace Go.Proofs.YtgdnpnipahegaaaGreatDoor
open Go.ChangeShapes Go.WideShapes Go.ChangeAt Go.RowKit
def Ut (c:UInt8):Bool:=c.toNat / 64 == 2
def B6:Nat→Nat→List UInt8→Option Nat
 | 0,acc,_=>some acc
 | _+1,_,[]=>none
 | n+1,acc,c::l=>if Ut c then B6 n (acc * 64+c.toNat % 64) l else none
def C8 (c:Nat):Option (Nat × Nat × Nat):=
 if 194≤c∧c < 224 then some (1,128,c % 32) else if 224≤c∧c < 240 then some (2,2048,c % 16) else if 240≤c∧c < 245 then some (3,65536,c % 8) else none
def K7 (least v:Nat):Bool:=decide (least≤v) && decide (v≤1114111) && !(decide (55296≤v) && decide (v < 57344))
def BI:List UInt8→Option (Nat × Nat)
 | []=>none
 | c::l=>if c.toNat < 128 then some (c.toNat,1) else match C8 c.toNat with
  | none=>none
  | some (n,least,first)=>match B6 n first l with
   | none=>none
   | some v=>if K7 least v then some (v,n+1) else none
def utf8F:Nat→List UInt8→Bool
 | 0,_=>true
 | f+1,l=>if l.isEmpty then true else match BI l with
  | none=>false
  | some (_,n)=>utf8F f (l.drop n)
def utf8V (l:List UInt8):Bool:=utf8F l.length l
theorem Lz:∀ (n acc:Nat) (l:List UInt8) (v:Nat),B6 n acc l = some v→n≤l.length
 | 0,_,_,_,_=>Nat.zero_le _
 | _+1,_,[],_,h=>by simp [B6] at h
 | n+1,acc,c::l,v,h=>by
  unfold B6 at h
  split at h
  ·have:=Lz n _ l v h; simp; omega
  ·cases h
theorem IF {c k least first:Nat} (h:C8 c = some (k,least,first)):(k = 1∧least = 128∧first < 32)∨(k = 2∧least = 2048∧first < 16)∨(k = 3∧least = 65536∧first < 8):=by
 unfold C8 at h
 by_cases h1:194≤c∧c < 224
 ·rw [if_pos h1] at h; cases h; exact .inl ⟨rfl,rfl,by omega⟩
 ·rw [if_neg h1] at h
  by_cases h2:224≤c∧c < 240
  ·rw [if_pos h2] at h; cases h; exact .inr (.inl ⟨rfl,rfl,by omega⟩)
  ·rw [if_neg h2] at h
   by_cases h3:240≤c∧c < 245
   ·rw [if_pos h3] at h; cases h; exact .inr (.inr ⟨rfl,rfl,by omega⟩)
   ·rw [if_neg h3] at h; cases h
theorem Bo (c:UInt8) (l:List UInt8):BI (c::l) = if c.toNat < 128 then some (c.toNat,1) else match C8 c.toNat with
  | none=>none
  | some (n,least,first)=>match B6 n first l with
   | none=>none
   | some v=>if K7 least v then some (v,n+1) else none:=rfl
theorem Dg {l:List UInt8} {v n:Nat} (h:BI l = some (v,n)):1≤n∧n≤l.length∧n≤4:=by
 cases l with
 | nil=>simp [BI] at h
 | cons c l=>
  by_cases h1:c.toNat < 128
  ·rw [Bo,if_pos h1] at h; cases h; exact ⟨by omega,by simp,by omega⟩
  ·rw [Bo,if_neg h1] at h
   rcases hh:C8 c.toNat with _ | ⟨k,least,first⟩
   ·rw [hh] at h; cases h
   ·rw [hh] at h;simp only at h;have hk:=IF hh
    rcases ht:B6 k first l with _ | v'
    ·rw [ht] at h; cases h
    ·rw [ht] at h;simp only at h;have:=Lz _ _ _ _ ht
     split at h
     ·cases h; exact ⟨by omega,by simp; omega,by omega⟩
     ·cases h
theorem EU:∀ n:Int,0≤n→n < 2 ^ 63→IntKind.i64.wrap n = n:=fun n h0 h1=>IntWalk.i64_in n ⟨by omega,by omega⟩
end Go.Proofs.YtgdnpnipahegaaaGreatDoor
