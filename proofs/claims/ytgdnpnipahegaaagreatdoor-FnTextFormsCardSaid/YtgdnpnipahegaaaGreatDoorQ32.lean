/-
 A string that the reference's writer of the text form writes, in any of its ways, is one for the package's reader, up to its quotation mark. Plain functions.
-/
import Derived.Test.YtgdnpnipahegaaaGreatDoorQ31
namespace Go.Proofs.YtgdnpnipahegaaaGreatDoor
theorem strTF_out (q:Nat):∀ (f:Nat) (l out:List UInt8),strTF q f l out = (strTF q f l []).map fun x=>(out++x.1,x.2)
 | 0,_,_=>rfl
 | f+1,l,out=>by
  unfold strTF
  rcases hu:u8char l with _ | ⟨c,n⟩
  ·rfl
  ·simp only
   split
   ·rfl
   ·split
    ·simp
    ·split
     ·rcases he:escT l with _ | ⟨b,m⟩
      ·rfl
      ·simp only [List.nil_append];rw [strTF_out q f (l.drop m) (out++b),strTF_out q f (l.drop m) b,Option.map_map]
       congr 1
       funext x
       simp
     ·simp only [List.nil_append];rw [strTF_out q f (l.drop n) (out++l.take n),strTF_out q f (l.drop n) (l.take n),Option.map_map]
      congr 1
      funext x
      simp
theorem strT_out (q:Nat) (l out:List UInt8):strT q l out = (strT q l []).map fun x=>(out++x.1,x.2):=strTF_out q _ l out
def Ends1 (q n:Nat) (l:List UInt8):Prop:=∃ s,strT q l [] = some (s,n)
variable {q n:Nat}
theorem Ends1.of {l out s:List UInt8} (h:strT q l out = some (s,n)):Ends1 q n l:=by
 rw [strT_out] at h
 rcases hs:strT q l [] with _ | ⟨t,m⟩
 ·rw [hs] at h; cases h
 ·rw [hs] at h;cases h;exact ⟨t,hs⟩
theorem Ends1.all {l:List UInt8} (h:Ends1 q n l) (out:List UInt8):∃ s,strT q l out = some (s,n):=by
 obtain ⟨s,hs⟩:=h;rw [strT_out,hs];exact ⟨_,rfl⟩
theorem Ends1.same {l l2 o o2:List UInt8} (e:strT q l o = strT q l2 o2):Ends1 q n l↔Ends1 q n l2:=by
 constructor
 ·intro h;obtain ⟨s,hs⟩:=h.all o;exact .of (e ▸ hs)
 ·intro h;obtain ⟨s,hs⟩:=h.all o2;exact .of (e.trans hs)
theorem Ends1.mark {c:UInt8} {r:List UInt8} (hc:c.toNat = q) (hq:q = 34∨q = 39):Ends1 q r.length (c::r):=by
 have hu:u8char (c::r) = some (c.toNat,1):=by rw [u8char_cons,if_pos (by omega)]
 exact ⟨[],by rw [strT_some hu,if_neg (by omega),if_pos hc]; simp⟩
theorem Ends1.plain {c:UInt8} {l:List UInt8} (h:c.toNat < 128) (h1:c.toNat≠0) (h2:c.toNat≠10) (h3:c.toNat≠q) (h4:c.toNat≠92):Ends1 q n (c::l)↔Ends1 q n l:=by
 have hu:u8char (c::l) = some (c.toNat,1):=by rw [u8char_cons,if_pos h]
 refine Ends1.same (o:=[]) (o2:=[c]) ?_;rw [strT_some hu,if_neg (by omega),if_neg h3,if_neg h4];simp
theorem Ends1.dropRun {p:UInt8→Bool} (hp:∀ c,p c = true→c.toNat < 128∧c.toNat≠0∧c.toNat≠10∧c.toNat≠q∧c.toNat≠92):∀ (k:Nat) (l:List UInt8),k≤runN p l→Ends1 q n l→Ends1 q n (l.drop k)
 | 0,l,_,h=>h
 | k+1,[],hk,_=>by simp [runN] at hk
 | k+1,c::l,hk,h=>by
  rw [runN_cons] at hk
  cases hc:p c with
  | false=>rw [hc] at hk; simp at hk
  | true=>
   rw [hc,if_pos rfl] at hk;obtain ⟨a,b,d,e,f⟩:=hp c hc;rw [List.drop_succ_cons];exact Ends1.dropRun hp k l (by omega) ((Ends1.plain a b d e f).1 h)
theorem Ends1.esc (hq:q = 34∨q = 39) {l b:List UInt8} {m:Nat} (he:escT (92::l) = some (b,m)) (h:Ends1 q n ((92::l).drop m)):Ends1 q n (92::l):=by
 have hu:u8char (92::l) = some (92,1):=by rw [u8char_cons]; try rfl
 obtain ⟨s,hs⟩:=h.all b;refine .of (out:=[]) (s:=s) ?_;rw [strT_some hu,if_neg (by omega),if_neg (by omega),if_pos rfl,he];exact hs
theorem okRun_add {p:UInt8→Bool}:∀ (y l:List UInt8),y.all p = true→runN p (y++l) = y.length+runN p l
 | [],l,_=>by simp
 | c::y,l,h=>by
  simp only [List.all_cons,Bool.and_eq_true] at h;rw [List.cons_append,runN_cons,h.1,if_pos rfl,okRun_add y l h.2,List.length_cons]; omega
theorem oct_plain {q:Nat} (hq:q = 34∨q = 39) {c:UInt8} (h:isOct c = true):c.toNat < 128∧c.toNat≠0∧c.toNat≠10∧c.toNat≠q∧c.toNat≠92:=by
 unfold isOct at h; simp at h; omega
theorem hex_plain {q:Nat} (hq:q = 34∨q = 39) {c:UInt8} (h:isHex c = true):c.toNat < 128∧c.toNat≠0∧c.toNat≠10∧c.toNat≠q∧c.toNat≠92:=by
 unfold isHex at h; simp at h; omega
def okSim:List UInt8→Bool
 | [b,c]=>b == 92 && escT1 c.toNat != 0
 | _=>false
theorem sims_ok:simEsc.all okSim = true:=by decide +kernel
theorem ends_sim (hq:q = 34∨q = 39) {x l:List UInt8} (hx:okSim x = true) (h:Ends1 q n l):Ends1 q n (x++l):=by
 match x,hx with
 | [b,c],hx=>
  simp only [okSim,Bool.and_eq_true,beq_iff_eq,bne_iff_ne] at hx;obtain ⟨rfl,hc⟩:=hx;refine Ends1.esc (b:=[UInt8.ofNat (escT1 c.toNat)]) (m:=2) hq ?_ (by simpa using h)
  show escT (92::c::l) = _
  rw [escT_cons,if_pos hc]
def okOct:List UInt8→Bool
 | b::c::y=>b == 92 && decide (c.toNat≤51) && isOct c && y.all isOct && decide (y.length≤2)
 | _=>false
theorem octs_ok:octEsc.all okOct = true:=by decide +kernel
theorem octV_le3 (z:List UInt8) (hl:z.length≤3) (h:∀ c ∈ z,isOct c = true) (h1:∀ c y,z = c::y→c.toNat≤51):octV 0 z≤255:=by
 have ho:∀ c ∈ z,c.toNat≤55:=fun c hc=>by have:=h c hc; unfold isOct at this; simp at this; omega
 clear h
 rcases z with _ | ⟨a,_ | ⟨b,_ | ⟨c,_ | ⟨d,y⟩⟩⟩⟩
 ·exact Nat.zero_le _
 ·have:=h1 a [] rfl
  show 0 * 8+(a.toNat - 48)≤255
  omega
 ·have:=h1 a [b] rfl;have:=ho b (by simp)
  show (0 * 8+(a.toNat - 48)) * 8+(b.toNat - 48)≤255
  omega
 ·have:=h1 a [b,c] rfl;have:=ho b (by simp);have:=ho c (by simp)
  show ((0 * 8+(a.toNat - 48)) * 8+(b.toNat - 48)) * 8+(c.toNat - 48)≤255
  omega
 ·simp at hl
theorem ends_oct (hq:q = 34∨q = 39) {x l:List UInt8} (hx:okOct x = true) (h:Ends1 q n l):Ends1 q n (x++l):=by
 match x,hx with
 | b::c::y,hx=>
  simp only [okOct,Bool.and_eq_true,beq_iff_eq,decide_eq_true_eq] at hx;obtain ⟨⟨⟨⟨rfl,h51⟩,hc⟩,hy⟩,hl⟩:=hx;have hrun:runN isOct (c::y++l) = (y.length+1)+runN isOct l:=okRun_add (c::y) l (by simp only [List.all_cons,hc,hy,Bool.and_self]);have hr3:=runN_le isOct (c::y++l)
  have he1:escT1 c.toNat = 0:=by
   unfold isOct at hc; simp at hc;unfold escT1
   repeat (first | (rw [if_neg (by omega)]))
  have hov:¬ 255 < octV 0 ((c::y++l).take (min 3 (runN isOct (c::y++l)))):=by
   have:=octV_le3 ((c::y++l).take (min 3 (runN isOct (c::y++l)))) (by rw [List.length_take]; omega) ?_ ?_
   ·omega
   ·intro d hd;refine runN_all isOct (c::y++l) d ?_;exact (List.take_subset_take_left _ (Nat.min_le_right _ _)) hd
   ·intro d z hz;rw [hrun,show min 3 (y.length+1+runN isOct l) = (min 3 (y.length+1+runN isOct l) - 1)+1 by omega,List.cons_append,List.take_succ_cons] at hz
    injection hz with hz
    rw [←hz]; exact h51
  refine Ends1.esc hq (b:=[UInt8.ofNat (octV 0 ((c::y++l).take (min 3 (runN isOct (c::y++l)))))]) (m:=1+min 3 (runN isOct (c::y++l))) ?_ ?_
  ·show escT (92::c::(y++l)) = _
   rw [escT_cons,if_neg (by simpa using he1),if_pos hc];unfold octT;rw [←List.cons_append,if_neg hov]
  ·show Ends1 q n ((92::(c::y++l)).drop _)
   rw [Nat.add_comm,List.drop_succ_cons,hrun]
   have e:(c::y++l).drop (min 3 (y.length+1+runN isOct l)) = l.drop (min 3 (y.length+1+runN isOct l) - (y.length+1)):=by
    rw [List.drop_append,List.drop_of_length_le (by simp; omega)];simp
   rw [e];exact Ends1.dropRun (p:=isOct) (fun _ hc=>oct_plain hq hc) _ l (by omega) h
theorem isHex_vP {c:UInt8} (h:isHex c = true):hexV c.toNat < 16:=by
 have hall:∀ c:Fin 256,isHex (UInt8.ofNat c.val) = true→hexV (UInt8.ofNat c.val).toNat < 16:=by decide +kernel
 have:=hall ⟨c.toNat,c.toNat_lt⟩;simp at this
 simpa using this (by simpa using h)
theorem hexN_allP:∀ (l:List UInt8) (acc:Nat),(∀ c ∈ l,isHex c = true)→∃ v,hexN acc l = some v
 | [],acc,_=>⟨acc,rfl⟩
 | c::l,acc,h=>by
  unfold hexN;rw [if_pos (isHex_vP (h c (by simp)))];exact hexN_allP l _ (fun d hd=>h d (by simp [hd]))
def okHex:List UInt8→Bool
 | b::c::d::y=>b == 92 && c == 120 && (d::y).all isHex && decide (y.length≤1)
 | _=>false
theorem hexs_ok:hexEsc.all okHex = true:=by decide +kernel
theorem ends_hex (hq:q = 34∨q = 39) {x l:List UInt8} (hx:okHex x = true) (h:Ends1 q n l):Ends1 q n (x++l):=by
 match x,hx with
 | b::c::d::y,hx=>
  simp only [okHex,Bool.and_eq_true,beq_iff_eq,decide_eq_true_eq] at hx;obtain ⟨⟨⟨rfl,rfl⟩,hy⟩,hl⟩:=hx;have hrun:runN isHex (d::y++l) = (y.length+1)+runN isHex l:=okRun_add (d::y) l hy;obtain ⟨v,hv⟩:=hexN_allP ((d::y++l).take (min 2 (runN isHex (d::y++l)))) 0 (fun e he=>runN_all isHex (d::y++l) e ((List.take_subset_take_left _ (Nat.min_le_right _ _)) he));refine Ends1.esc hq (b:=[UInt8.ofNat v]) (m:=2+min 2 (runN isHex (d::y++l))) ?_ ?_
  ·show escT (92::120::(d::y++l)) = _
   rw [escT_cons,if_neg (by decide),if_neg (by decide),if_pos (by decide)];unfold hexT2;rw [if_neg (by omega),hv]
  ·show Ends1 q n ((92::120::(d::y++l)).drop _)
   rw [Nat.add_comm,List.drop_succ_cons,List.drop_succ_cons,hrun]
   have e:(d::y++l).drop (min 2 (y.length+1+runN isHex l)) = l.drop (min 2 (y.length+1+runN isHex l) - (y.length+1)):=by
    rw [List.drop_append,List.drop_of_length_le (by simp; omega)];simp
   rw [e];exact Ends1.dropRun (p:=isHex) (fun _ hc=>hex_plain hq hc) _ l (by omega) h
def okUni:List UInt8→Bool
 | b::c::y=>b == 92 && (c == 117 && y.length == 4 || c == 85 && y.length == 8) && (match hexN 0 y with
  | none=>false
  | some v=>decide (v≤1114111) && !surrT v)
 | _=>false
theorem unis_ok:uniEsc.all okUni = true:=by decide +kernel
theorem ends_uni (hq:q = 34∨q = 39) {x l:List UInt8} (hx:okUni x = true) (h:Ends1 q n l):Ends1 q n (x++l):=by
 match x,hx with
 | b::c::y,hx=>
  simp only [okUni,Bool.and_eq_true,Bool.or_eq_true,beq_iff_eq] at hx;obtain ⟨⟨rfl,hc⟩,hv⟩:=hx
  rcases hx:hexN 0 y with _ | v
  ·rw [hx] at hv; cases hv
  ·rw [hx] at hv;simp at hv
   have hu:∀ d,y.length = d→uniT d (92::c::y++l) = some (encU v,d+2):=by
    intro d hd;unfold uniT;rw [if_neg (by simp; omega)]
    show (match hexN 0 ((y++l).take d) with | none=>_ | some v=>_) = _
    rw [←hd,List.take_left,hx];simp only;rw [if_neg (by omega),if_pos hv.2]
   rcases hc with ⟨rfl,hl⟩ | ⟨rfl,hl⟩
   ·refine Ends1.esc hq (b:=encU v) (m:=6) ?_ ?_
    ·show escT (92::117::(y++l)) = _
     rw [escT_cons,if_neg (by decide),if_neg (by decide),if_neg (by decide),if_pos (by decide)];exact hu 4 hl
    ·show Ends1 q n ((y++l).drop 4)
     rw [←hl,List.drop_left]; exact h
   ·refine Ends1.esc hq (b:=encU v) (m:=10) ?_ ?_
    ·show escT (92::85::(y++l)) = _
     rw [escT_cons,if_neg (by decide),if_neg (by decide),if_neg (by decide),if_neg (by decide),if_pos (by decide)];exact hu 8 hl
    ·show Ends1 q n ((y++l).drop 8)
     rw [←hl,List.drop_left]; exact h
def okRaw (x:List UInt8):Bool:=match u8char x with
 | none=>false
 | some (c,k)=>k == x.length && !(c == 0 || c == 10 || c == 34 || c == 39 || c == 92)
theorem raws_ok:rawTab.all okRaw = true:=by decide +kernel
theorem ends_raw (hq:q = 34∨q = 39) {x l:List UInt8} (hx:okRaw x = true) (h:Ends1 q n l):Ends1 q n (x++l):=by
 unfold okRaw at hx
 rcases hu:u8char x with _ | ⟨c,k⟩
 ·rw [hu] at hx; cases hx
 ·rw [hu] at hx;simp at hx;obtain ⟨rfl,hc⟩:=hx;have hu2:=u8char_take hu (r:=l);rw [List.take_length] at hu2;refine (Ends1.same (o:=[]) (o2:=x) (l2:=l) ?_).2 h;rw [strT_some hu2,if_neg (by omega),if_neg (by omega),if_neg (by omega),List.drop_left,List.take_left];simp
theorem charW_out (ps:List UInt8) (hq:q = 34∨q = 39) (s:WS):∃ x,(charW ps q s).out = s.out++x∧(charW ps q s).l = s.l∧(charW ps q s).left = s.left∧∀ n l,Ends1 q n l→Ends1 q n (x++l):=by
 have tab:∀ (tab:List (List UInt8)) (ok:List UInt8→Bool) (s1:WS),0 < tab.length→s1.out = s.out→s1.l = s.l→s1.left = s.left→tab.all ok = true→(∀ x,ok x = true→∀ n l,Ends1 q n l→Ends1 q n (x++l))→
   ∃ x,(oneW ps tab s1).out = s.out++x∧(oneW ps tab s1).l = s.l∧(oneW ps tab s1).left = s.left∧∀ n l,Ends1 q n l→Ends1 q n (x++l):=by
  intro tab ok s1 h0 e1 e2 e3 hall hok;obtain ⟨x,hx,h1,h2,h3⟩:=oneW_out ps tab s1 h0;exact ⟨x,by rw [h1,e1],by rw [h2,e2],by rw [h3,e3],hok x (List.all_eq_true.1 hall x hx)⟩
 unfold charW;simp only
 split
 ·refine ⟨_,rfl,rfl,rfl,fun n l h=>?_⟩;have hp:=pickL_lt ps (pickedW ps s).k 95 (by decide);generalize pickT ps (pickedW ps s).k 95 = v at *;rw [List.singleton_append]
  have hc:∀ z,z < 128→(UInt8.ofNat z).toNat = z:=fun z hz=>by simp [Nat.mod_eq_of_lt (show z < 256 by omega)]
  split
  ·rw [Ends1.plain]
   ·exact h
   all_goals rw [hc 113 (by decide)]; omega
  ·rename_i hne
   rw [Ends1.plain]
   ·exact h
   all_goals rw [hc _ (by omega)]; omega
 ·split
  ·exact tab simEsc okSim _ (by decide) rfl rfl rfl sims_ok fun x hx n l h=>ends_sim hq hx h
  ·split
   ·exact tab octEsc okOct _ (by decide) rfl rfl rfl octs_ok fun x hx n l h=>ends_oct hq hx h
   ·split
    ·exact tab hexEsc okHex _ (by decide) rfl rfl rfl hexs_ok fun x hx n l h=>ends_hex hq hx h
    ·split
     ·exact tab uniEsc okUni _ (by decide) rfl rfl rfl unis_ok fun x hx n l h=>ends_uni hq hx h
     ·exact tab rawTab okRaw _ (by decide) rfl rfl rfl raws_ok fun x hx n l h=>ends_raw hq hx h
theorem charsW_out (ps:List UInt8) (hq:q = 34∨q = 39):∀ (m:Nat) (s:WS),∃ x,(charsW ps q m s).out = s.out++x∧(charsW ps q m s).l = s.l∧(charsW ps q m s).left = s.left∧∀ n l,Ends1 q n l→Ends1 q n (x++l)
 | 0,s=>⟨[],by simp [charsW],rfl,rfl,fun n l h=>h⟩
 | m+1,s=>by
  obtain ⟨x,e1,e2,e3,h⟩:=charW_out ps hq s;obtain ⟨y,f1,f2,f3,g⟩:=charsW_out ps hq m (charW ps q s);exact ⟨x++y,by rw [charsW,f1,e1,List.append_assoc],by rw [charsW,f2,e2],by rw [charsW,f3,e3],fun n l hl=>by rw [List.append_assoc]; exact h n _ (g n l hl)⟩
def Str1 (x:List UInt8):Prop:=∃ c y,x = c::y∧(c.toNat = 34∨c.toNat = 39)∧∀ r,Ends1 c.toNat r.length (y++r)
theorem strW_out (ps:List UInt8) (s:WS):∃ x,Str1 x∧(strW ps s).out = s.out++x∧(strW ps s).l = s.l∧(strW ps s).left = s.left:=by
 unfold strW;simp only;generalize hqq:(if 0 < pickT ps s.k 2 then 39 else 34:Nat) = q
 have hq:q = 34∨q = 39:=by rw [←hqq]; split <;> simp
 obtain ⟨x,e1,e2,e3,h⟩:=charsW_out (q:=q) ps hq (pickT ps (putW [UInt8.ofNat q] (pickedW ps s)).k 8) (pickedW ps (putW [UInt8.ofNat q] (pickedW ps s)))
 have hc:(UInt8.ofNat q).toNat = q:=by rcases hq with rfl | rfl <;> rfl
 refine ⟨UInt8.ofNat q::(x++[UInt8.ofNat q]),⟨_,_,rfl,by rw [hc]; exact hq,fun r=>?_⟩,?_,e2,e3⟩
 ·rw [hc,List.append_assoc];exact h _ _ (Ends1.mark hc hq)
 ·show (charsW ps q _ _).out++_ = _
  rw [e1]
  show (s.out++[_])++_++_ = _
  simp
end Go.Proofs.YtgdnpnipahegaaaGreatDoor
namespace Go.Proofs.YtgdnpnipahegaaaGreatDoor
theorem tnF_fuel:∀ (f g:Nat) (l name:List UInt8),l.length≤f→l.length≤g→tnF f l name = tnF g l name
 | 0,0,_,_,_,_=>rfl
 | 0,g+1,l,name,h,_=>by
  have:l = []:=List.eq_nil_of_length_eq_zero (by omega);subst this; rfl
 | f+1,0,l,name,_,h=>by
  have:l = []:=List.eq_nil_of_length_eq_zero (by omega);subst this; rfl
 | f+1,g+1,[],name,_,_=>rfl
 | f+1,g+1,c::r,name,hf,hg=>by
  simp only [List.length_cons] at hf hg;have hc:=csT_len r;rw [tnF_cons,tnF_cons]
  split
  ·rfl
  ·split
   ·exact tnF_fuel f g _ _ (by omega) (by omega)
   ·split
    ·rcases r with _ | ⟨a,_ | ⟨b,r2⟩⟩
     ·rfl
     ·rfl
     ·simp only
      split
      ·have:=csT_len r2;simp only [List.length_cons] at hf hg;exact tnF_fuel f g _ _ (by omega) (by omega)
      ·rfl
    ·rfl
def tnT (l name:List UInt8):Option (List UInt8 × List UInt8):=tnF l.length l name
theorem tnT_eq {f:Nat} {l name:List UInt8} (h:l.length≤f):tnF f l name = tnT l name:=tnF_fuel _ _ _ _ h (Nat.le_refl _)
theorem tnT_cons (c:UInt8) (r name:List UInt8):tnT (c::r) name = if c.toNat = 93 then some (name,r) else if c.toNat = 47∨tnC c = true∨urlC c = true then tnT (csT r) (name++[c])
  else if c.toNat = 37 then (match r with
   | a::b::r2=>if isHex a && isHex b then tnT (csT r2) (name++[c,a,b]) else none
   | _=>none)
  else none:=by
 have hc:=csT_len r
 conv=>lhs; unfold tnT
 rw [List.length_cons,tnF_cons]
 split
 ·rfl
 ·split
  ·exact tnT_eq hc
  ·split
   ·rcases r with _ | ⟨a,_ | ⟨b,r2⟩⟩
    ·rfl
    ·rfl
    ·simp only
     split
     ·have:=csT_len r2;exact tnT_eq (by simp only [List.length_cons]; omega)
     ·rfl
   ·rfl
def okPart:List UInt8→Bool
 | []=>true
 | [c]=>c.toNat == 47 || tnC c || urlC c
 | [c,d]=>(c.toNat == 47 || tnC c || urlC c) && okPart [d]
 | c::a::b::r=>if c.toNat == 47 || tnC c || urlC c then okPart (a::b::r) else c.toNat == 37 && isHex a && isHex b && okPart r
theorem tn_head {c:UInt8} (h:(c.toNat == 47 || tnC c || urlC c) = true∨c.toNat = 37):blankT c = false∧c.toNat≠35∧c.toNat≠93:=by
 have hall:∀ c:Fin 256,((UInt8.ofNat c.val).toNat == 47 || tnC (UInt8.ofNat c.val) || urlC (UInt8.ofNat c.val)) = true∨(UInt8.ofNat c.val).toNat = 37→blankT (UInt8.ofNat c.val) = false∧(UInt8.ofNat c.val).toNat≠35∧(UInt8.ofNat c.val).toNat≠93:=by decide +kernel
 have:=hall ⟨c.toNat,c.toNat_lt⟩;simp only [UInt8.ofNat_toNat] at this;exact this h
theorem tnT_ch {c:UInt8} (h:(c.toNat == 47 || tnC c || urlC c) = true) (l name:List UInt8):tnT (csT (c::l)) name = tnT (csT l) (name++[c]):=by
 obtain ⟨h1,h2,h3⟩:=tn_head (.inl h);rw [csT_stop h1 h2,tnT_cons,if_neg h3,if_pos (by simpa [or_assoc] using h)]
theorem tnT_part:∀ (p l name:List UInt8),okPart p = true→tnT (csT (p++l)) name = tnT (csT l) (name++p)
 | [],l,name,_=>by simp
 | [c],l,name,h=>by
  rw [List.singleton_append,tnT_ch h]
 | [c,d],l,name,h=>by
  simp only [okPart,Bool.and_eq_true] at h
  show tnT (csT (c::d::l)) name = _
  rw [tnT_ch h.1,tnT_ch h.2,List.append_assoc]
  try rfl
 | c::a::b::r,l,name,h=>by
  unfold okPart at h
  split at h
  ·rename_i hc
   rw [List.cons_append,tnT_ch hc,tnT_part (a::b::r) l _ h,List.append_assoc]
   try rfl
  ·rename_i hc
   simp only [Bool.and_eq_true,beq_iff_eq] at h;obtain ⟨⟨⟨h37,ha⟩,hb⟩,hr⟩:=h;obtain ⟨h1,h2,h3⟩:=tn_head (c:=c) (.inr h37)
   show tnT (csT (c::a::b::(r++l))) name = _
   rw [csT_stop h1 h2,tnT_cons,if_neg h3,if_neg (by simpa [or_assoc] using hc),if_pos h37];simp only [ha,hb,Bool.and_self,if_true];rw [tnT_part r l _ hr,List.append_assoc]
   try rfl
theorem parts_ok:(typeParts.all fun l=>l.all okPart && nameOk l.flatten) = true:=by decide +kernel
theorem partsW_out (ps:List UInt8):∀ (l:List (List UInt8)) (str:List UInt8) (s:WS),l.all okPart = true→∃ y,(partsW ps l str s).2.out = s.out++y∧(partsW ps l str s).2.l = s.l∧(partsW ps l str s).2.left = s.left∧(partsW ps l str s).1 = str++l.flatten∧
  ∀ r name,tnT (csT (y++r)) name = tnT (csT r) (name++l.flatten)
 | [],str,s,_=>⟨[],by simp [partsW],rfl,rfl,by simp [partsW],fun r name=>by simp⟩
 | x::l,str,s,h=>by
  simp only [List.all_cons,Bool.and_eq_true] at h;unfold partsW
  split
  ·obtain ⟨b,hb,e1,e2,e3,_⟩:=blanksW_out ps false (putW x s);obtain ⟨y,f1,f2,f3,f4,f5⟩:=partsW_out ps l (str++x) (blanksW ps false (putW x s)) h.2;refine ⟨x++(b++y),?_,by rw [f2,e2]; try rfl,by rw [f3,e3]; try rfl,by rw [f4]; simp,fun r name=>?_⟩
   ·rw [f1,e1]; simp [putW]
   ·rw [List.append_assoc,tnT_part x _ _ h.1,List.append_assoc,csT_blk hb,f5]; simp
  ·obtain ⟨y,f1,f2,f3,f4,f5⟩:=partsW_out ps l (str++x) (putW x s) h.2;refine ⟨x++y,?_,f2,f3,by rw [f4]; simp,fun r name=>?_⟩
   ·rw [f1]; simp [putW]
   ·rw [List.append_assoc,tnT_part x _ _ h.1,f5]; simp
theorem typedW_out (ps:List UInt8) (s:WS):∃ x,(typedW ps s).2.out = s.out++(91::x)∧(typedW ps s).2.l = s.l∧(typedW ps s).2.left = s.left∧nameOk (typedW ps s).1 = true∧
  ∀ r,tnT (csT (x++r)) [] = some ((typedW ps s).1,r):=by
 have hm:typeParts.getD (pickT ps s.k 5) [] ∈ typeParts:=by
  have h:pickT ps s.k 5 < typeParts.length:=pickL_lt ps s.k 5 (by decide);rw [List.getD_eq_getElem?_getD,List.getElem?_eq_getElem h]; exact List.getElem_mem h
 have hok:=List.all_eq_true.1 parts_ok _ hm;simp only [Bool.and_eq_true] at hok;unfold typedW;simp only;obtain ⟨b,hb,e1,e2,e3,_⟩:=blanksW_out ps false (putW [91] (pickedW ps s));obtain ⟨y,f1,f2,f3,f4,f5⟩:=partsW_out ps (typeParts.getD (pickT ps s.k 5) []) [] (blanksW ps false (putW [91] (pickedW ps s))) hok.1;generalize partsW ps (typeParts.getD (pickT ps s.k 5) []) [] (blanksW ps false (putW [91] (pickedW ps s))) = R at *;obtain ⟨b2,hb2,g1,g2,g3,_⟩:=blanksW_out ps false R.2;refine ⟨b++(y++(b2++[93])),?_,?_,?_,?_,fun r=>?_⟩
 ·show (blanksW ps false R.2).out++[93] = _
  rw [g1,f1,e1]; simp [putW,pickedW]
 ·show (blanksW ps false R.2).l = _
  rw [g2,f2,e2]; try rfl
 ·show (blanksW ps false R.2).left = _
  rw [g3,f3,e3]; try rfl
 ·rw [f4]; simpa using hok.2
 ·simp only [List.append_assoc];rw [csT_blk hb,f5,csT_blk hb2,f4];rw [show csT ([93]++r) = 93::r from csT_stop (by decide) (by decide),tnT_cons,if_pos (by decide)]
end Go.Proofs.YtgdnpnipahegaaaGreatDoor
namespace Go.Proofs.YtgdnpnipahegaaaGreatDoor
theorem goT_zero (bs:List UInt8) (n:Nat):goT bs n 0 = n+skT false (bs.drop n):=by unfold goT; rw [Nat.add_zero]
theorem goT_addF (bs:List UInt8) (n m:Nat):goT bs n m = goT bs (n+m) 0:=by unfold goT; rw [Nat.add_zero]
theorem skT_idem (l:List UInt8):skT false (csT l) = 0:=by
 have key:∀ (l:List UInt8) (b:Bool),skT false (l.drop (skT b l)) = 0:=by
  intro l
  induction l with
  | nil=>intro b; cases b <;> simp [skT_nil]
  | cons c l ih=>
   intro b
   cases b with
   | true=>rw [skT_true,List.drop_succ_cons]; exact ih _
   | false=>
    rw [skT_false]
    split
    ·rw [List.drop_succ_cons]; exact ih _
    ·rename_i h1
     split
     ·rw [List.drop_succ_cons]; exact ih _
     ·rename_i h2
      rw [List.drop_zero,skT_false,if_neg h1,if_neg h2]
 exact key l false
theorem drop_goT (bs:List UInt8) (n:Nat):bs.drop (goT bs n 0) = csT (bs.drop n):=by rw [goT_zero,←List.drop_drop]; try rfl
theorem goT_idem (bs:List UInt8) (n:Nat):goT bs (goT bs n 0) 0 = goT bs n 0:=by
 rw [goT_zero bs (goT bs n 0),drop_goT,skT_idem,Nat.add_zero]
theorem drop_pre {bs pre r:List UInt8} (hb:bs = pre++r):bs.drop pre.length = r:=by rw [hb]; exact List.drop_left
theorem goT_blk {bs pre x r:List UInt8} (hb:bs = pre++(x++r)) (hx:Blk x):goT bs pre.length 0 = goT bs (pre++x).length 0:=by
 rw [goT_zero,goT_zero,drop_pre hb,drop_pre (pre:=pre++x) (r:=r) (by rw [hb,List.append_assoc]),hx,List.length_append]; omega
theorem goT_stop {bs pre r:List UInt8} (hb:bs = pre++r) (hr:skT false r = 0):goT bs pre.length 0 = pre.length:=by rw [goT_zero,drop_pre hb,hr]; try rfl
def outT (t:TT):TX:=⟨t.kind,if t.kind = 2 then t.att else 0,t.pos,if t.kind = 2 then t.sep else false,t.raw,if t.kind = 2 then (if t.att = 2 then t.str else t.raw) else []⟩
def quotedB:List UInt8→Bool
 | []=>false
 | c::_=>c.toNat == 34 || c.toNat == 39
structure TokOk (t:TT) (x:TX):Prop where
 kind:(outT t).kind = x.kind
 nk:(outT t).nk = x.nk
 pos:(outT t).pos = x.pos
 sep:(outT t).sep = x.sep
 str:(outT t).str = x.str
 raw:quotedB x.raw = false→(outT t).raw = x.raw
inductive ToksOk:List TT→List TX→Prop
 | nil:ToksOk [] []
 | cons {t:TT} {x:TX} {l:List TT} {m:List TX}:TokOk t x→ToksOk l m→ToksOk (t::l) (x::m)
theorem ToksOk.append {l l2:List TT} {m m2:List TX} (h:ToksOk l m) (k:ToksOk l2 m2):ToksOk (l++l2) (m++m2):=by
 induction h with
 | nil=>exact k
 | cons h1 _ ih=>exact .cons h1 ih
theorem ToksOk.length {l:List TT} {m:List TX} (h:ToksOk l m):l.length = m.length:=by
 induction h with
 | nil=>rfl
 | cons _ _ ih=>simp only [List.length_cons,ih]
def SepK (n:Nat):Prop:=n = 8∨n = 9
inductive Chain (bs:List UInt8):DT→List TT→DT→Prop
 | nil (s:DT):Chain bs s [] s
 | tok {s s1 t:DT} {l:List TT}:stepT bs s = some s1→¬ SepK s1.tok.kind→s1.tok.kind≠1→Chain bs s1 l t→Chain bs s (s1.tok::l) t
 | comma {s s1 t:DT} {l:List TT}:stepT bs s = some s1→SepK s1.tok.kind→Chain bs s1 l t→Chain bs s l t
theorem Chain.trans {bs:List UInt8} {s t u:DT} {l m:List TT} (h:Chain bs s l t) (k:Chain bs t m u):Chain bs s (l++m) u:=by
 induction h with
 | nil s=>exact k
 | tok h1 h2 h3 _ ih=>exact .tok h1 h2 h3 (ih k)
 | comma h1 h2 _ ih=>exact .comma h1 h2 (ih k)
theorem Chain.facts {bs:List UInt8} {s t:DT} {l:List TT} (h:Chain bs s l t) (hk:s.k≤bs.length):t.bad = s.bad∧t.k≤bs.length∧s.k+l.length≤t.k∧(s.peeked = false→t.peeked = false):=by
 induction h with
 | nil s=>exact ⟨rfl,hk,by simp,fun h=>h⟩
 | tok h1 h2 h3 _ ih=>
  have ho:=step_ok h1 hk;have:=ih ho.2.2.1;refine ⟨this.1.trans ho.2.1,this.2.1,?_,fun _=>this.2.2.2 ho.1⟩;have:=ho.2.2.2.2.1 h3;simp only [List.length_cons]; omega
 | comma h1 h2 _ ih=>
  have ho:=step_ok h1 hk;have:=ih ho.2.2.1;exact ⟨this.1.trans ho.2.1,this.2.1,by omega,fun _=>this.2.2.2 ho.1⟩
theorem readF_oneL {bs:List UInt8} {s s1:DT} (h:stepT bs s = some s1) (hs:¬ SepK s1.tok.kind):readF bs s = some s1:=by
 unfold readF; rw [h]; exact if_neg hs
theorem readF_two {bs:List UInt8} {s s1:DT} (h:stepT bs s = some s1) (hs:SepK s1.tok.kind):readF bs s = stepT bs s1:=by
 unfold readF; rw [h]; exact if_pos hs
theorem runT_step {bs:List UInt8} {f:Nat} {s:DT} {out:List TT} (hp:s.peeked = false):runT bs [] (f+1) s out = match readF bs s with
  | none=>(out,false)
  | some s1=>if s1.tok.kind = 1 then (out,true) else runT bs [] f s1 (out++[s1.tok]):=by
 rw [runT_succ]; simp only [List.getD_nil,Bool.false_eq_true,if_false]; rw [readT_plain hp]
 try rfl
theorem Chain.run {bs:List UInt8} {s t e:DT} {l:List TT} (h:Chain bs s l t) (he:stepT bs t = some e) (hek:e.tok.kind = 1):s.peeked = false→s.k≤bs.length→∀ (f:Nat) (out:List TT),l.length < f→
  (¬ SepK s.tok.kind→runT bs [] f s out = (out++l,true))∧
  (SepK s.tok.kind→∀ s0,s0.peeked = false→stepT bs s0 = some s→runT bs [] f s0 out = (out++l,true)):=by
 have hes:¬ SepK e.tok.kind:=by unfold SepK; omega
 induction h with
 | nil s=>
  intro hp hk f out hf;obtain ⟨f,rfl⟩:∃ g,f = g+1:=⟨f - 1,by simp at hf; omega⟩;refine ⟨fun _=>?_,fun hc s0 hp0 h0=>?_⟩
  ·rw [runT_step hp,readF_oneL he hes]; simp [hek]
  ·rw [runT_step hp0,readF_two h0 hc,he]; simp [hek]
 | @tok s s1 t l h1 h2 h3 _ ih=>
  intro hp hk f out hf;obtain ⟨f,rfl⟩:∃ g,f = g+1:=⟨f - 1,by simp at hf; omega⟩;have ho:=step_ok h1 hk;have ih':=fun out=>(ih he ho.1 ho.2.2.1 f out (by simp at hf; omega)).1 h2
  have e2:out++s1.tok::l = (out++[s1.tok])++l:=by simp
  refine ⟨fun _=>?_,fun hc s0 hp0 h0=>?_⟩
  ·rw [runT_step hp,readF_oneL h1 h2]; simp only; rw [if_neg h3,ih',e2]
  ·rw [runT_step hp0,readF_two h0 hc,h1]; simp only; rw [if_neg h3,ih',e2]
 | @comma s s1 t l h1 h2 _ ih=>
  intro hp hk f out hf;have ho:=step_ok h1 hk;refine ⟨fun _=>(ih he ho.1 ho.2.2.1 f out hf).2 h2 s hp h1,fun hc=>?_⟩;have:=ho.2.2.2.2.2.2 hc;unfold SepK at h2; omega
structure At (bs:List UInt8) (n:Nat) (st:List UInt8) (last:Nat) (s:DT):Prop where
 peeked:s.peeked = false
 bad:s.bad = false
 st:s.st = st
 last:s.tok.kind = last
 le:s.k≤bs.length
 pos:goT bs s.k 0 = goT bs n 0
def ValEnd (n:Nat):Prop:=n = 3∨n = 5∨n = 7
theorem At.blank {bs pre x r st:List UInt8} {last:Nat} {s:DT} (h:At bs pre.length st last s) (hb:bs = pre++(x++r)) (hx:Blk x):At bs (pre++x).length st last s:={ h with pos:=h.pos.trans (goT_blk hb hx) }
def nextP (bs:List UInt8) (last:Nat) (st:List UInt8) (k:Nat):Option (TT × List UInt8 × Nat):=
 if last = 1 then withSt st (some (tokT bs k 1 0 0))
 else if last = 0 then inTop bs false st k
 else if last = 2 then value1 bs true false st k
 else if last = 4 then inMsg bs false st k
 else if last = 6 then value1 bs false true st k
 else if last = 8∨last = 9 then (if openK st = 0 then inTop bs false st k else if openK st = 4 then inMsg bs false st k else value1 bs false false st k)
 else (if openK st = 0 then inTop bs true st k else if openK st = 4 then inMsg bs true st k else inList bs st k)
theorem nextT_eq (bs:List UInt8) (last:Nat) (st:List UInt8) (k:Nat):nextT bs last st k = nextP bs last st (goT bs k 0):=rfl
theorem stepT_at {bs pre r st st':List UInt8} {last k':Nat} {a:DT} {t:TT} (h:At bs pre.length st last a) (hb:bs = pre++r) (hr:skT false r = 0) (hn:nextP bs last st pre.length = some (t,st',k')):stepT bs a = some ⟨false,t,false,st',k'⟩:=by
 unfold stepT;rw [nextT_eq,h.pos,goT_stop hb hr,h.last,h.st,hn,h.bad]
theorem at_mk {bs st:List UInt8} {n k:Nat} {t:TT} {last:Nat} (hk:k = goT bs n 0) (hn:n≤bs.length) (hl:t.kind = last):At bs n st last ⟨false,t,false,st,k⟩:=
 ⟨rfl,rfl,rfl,hl,by have:=(goT_le (bs:=bs) (k:=n) (n:=0) (by omega)).2; subst hk; exact this,by show goT bs k 0 = _; rw [hk]; exact goT_idem bs n⟩
theorem open_last (st:List UInt8) (c:UInt8):openK (st++[c]) = (if c.toNat = 91 then 6 else 4)∧closeT (st++[c]) = (if c.toNat = 91 then 93 else if c.toNat = 123 then 125 else 62):=by
 unfold openK closeT;simp
theorem open_nil:openK [] = 0:=rfl
def FieldAt (st:List UInt8) (last:Nat):Prop:=(openK st = 0∧(last = 0∨ValEnd last∨SepK last))∨(openK st = 4∧(last = 4∨ValEnd last∨SepK last))
def ValueAt (st:List UInt8) (last:Nat):Prop:=last = 2∨last = 6∨(last = 8∧openK st = 6)
def NHead (c:UInt8):Prop:=blankT c = false∧c.toNat≠35∧c.toNat≠34∧c.toNat≠39∧c.toNat≠125∧c.toNat≠62∧c.toNat≠44∧c.toNat≠59
theorem close_is (st:List UInt8) (h:openK st = 4):closeT st = 125∧otherT (closeT st) = 62∨closeT st = 62∧otherT (closeT st) = 125:=by
 unfold openK at h
 have hc:closeT st = 125∨closeT st = 62:=by
  unfold closeT
  rcases hs:st.getLast? with _ | c
  ·rw [hs] at h; simp at h
  ·rw [hs] at h;simp only at h ⊢
   split at h
   ·omega
   ·rename_i h1
    rw [if_neg h1]
    split <;> simp
 unfold otherT
 rcases hc with hc | hc <;> rw [hc] <;> simp
theorem next_field {bs st:List UInt8} {last k:Nat} {c:UInt8} {r:List UInt8} (hF:FieldAt st last) (hd:bs.drop k = c::r) (hc:NHead c):nextP bs last st k = withSt st (fieldT bs k):=by
 obtain ⟨_,_,_,_,h1,h2,h3,h4⟩:=hc
 have top:∀ b,inTop bs b st k = withSt st (fieldT bs k):=fun b=>by
  unfold inTop; rw [hd]; simp only; rw [if_neg (by omega),if_neg (by omega)]
 have msg:openK st = 4→∀ b,inMsg bs b st k = withSt st (fieldT bs k):=fun ho b=>by
  have hcl:=close_is st ho;unfold inMsg; rw [hd]; simp only; rw [if_neg (by omega),if_neg (by omega),if_neg (by omega),if_neg (by omega)]
 unfold nextP
 rcases hF with ⟨ho,hl⟩ | ⟨ho,hl⟩
 ·rcases hl with rfl | hl | hl
  ·rw [if_neg (by decide),if_pos rfl,top]
  ·unfold ValEnd at hl;rw [if_neg (by omega),if_neg (by omega),if_neg (by omega),if_neg (by omega),if_neg (by omega),if_neg (by omega),if_pos ho,top]
  ·unfold SepK at hl;rw [if_neg (by omega),if_neg (by omega),if_neg (by omega),if_neg (by omega),if_neg (by omega),if_pos hl,if_pos ho,top]
 ·rcases hl with rfl | hl | hl
  ·rw [if_neg (by decide),if_neg (by decide),if_neg (by decide),if_pos rfl,msg ho]
  ·unfold ValEnd at hl;rw [if_neg (by omega),if_neg (by omega),if_neg (by omega),if_neg (by omega),if_neg (by omega),if_neg (by omega),if_neg (by omega),if_pos ho,msg ho]
  ·unfold SepK at hl;rw [if_neg (by omega),if_neg (by omega),if_neg (by omega),if_neg (by omega),if_neg (by omega),if_pos hl,if_neg (by omega),if_pos ho,msg ho]
theorem next_value {bs st:List UInt8} {last k:Nat} {c:UInt8} {r:List UInt8} (hV:ValueAt st last) (hd:bs.drop k = c::r):nextP bs last st k = if c.toNat = 123∨c.toNat = 60 then withSt (st++[c]) (some (tokT bs k 4 1 0)) else if last = 2∧c.toNat = 91 then withSt (st++[c]) (some (tokT bs k 6 1 0))
  else if last = 6∧c.toNat = 93 then withSt st.dropLast (some (tokT bs k 7 1 0)) else withSt st (scalarT bs k):=by
 unfold nextP
 rcases hV with rfl | rfl | ⟨rfl,ho⟩
 ·rw [if_neg (by decide),if_neg (by decide),if_pos rfl];unfold value1; rw [hd];simp
 ·rw [if_neg (by decide),if_neg (by decide),if_neg (by decide),if_neg (by decide),if_pos rfl];unfold value1; rw [hd];simp
 ·rw [if_neg (by decide),if_neg (by decide),if_neg (by decide),if_neg (by decide),if_neg (by decide),if_pos (by decide),if_neg (by omega),if_neg (by omega)];unfold value1; rw [hd];simp
theorem tok_one {bs pre r:List UInt8} {c:UInt8} (hb:bs = pre++([c]++r)) (kd at_:Nat):tokT bs pre.length kd 1 at_ = (⟨kd,at_,false,0,pre.length,[c],[]⟩,goT bs (pre++[c]).length 0):=by
 unfold tokT;rw [drop_pre hb,goT_addF];simp
theorem one_le {bs pre r:List UInt8} {c:UInt8} (hb:bs = pre++([c]++r)):(pre++[c]).length≤bs.length:=by rw [hb]; simp
theorem sk_head {c:UInt8} {r:List UInt8} (h1:blankT c = false) (h2:c.toNat≠35):skT false ([c]++r) = 0:=skT_stop h1 h2
section
variable {bs pre r st:List UInt8} {last:Nat} {a:DT}
theorem blank_no {c:UInt8} (h:c.toNat≠32∧c.toNat≠10∧c.toNat≠13∧c.toNat≠9):blankT c = false:=by unfold blankT; simp; omega
theorem step_openM {c:UInt8} (h:At bs pre.length st last a) (hV:ValueAt st last) (hb:bs = pre++([c]++r)) (hc:c.toNat = 123∨c.toNat = 60) :
  ∃ a',stepT bs a = some a'∧a'.tok.kind = 4∧TokOk a'.tok ⟨4,0,pre.length,false,[c],[]⟩∧At bs (pre++[c]).length (st++[c]) 4 a':=by
 have hn:=next_value hV (drop_pre hb);rw [if_pos hc,tok_one hb] at hn;exact ⟨_,stepT_at h hb (sk_head (blank_no (by omega)) (by omega)) hn,rfl,⟨rfl,rfl,rfl,rfl,rfl,fun _=>rfl⟩,at_mk rfl (one_le hb) rfl⟩
theorem step_openL {c:UInt8} (h:At bs pre.length st 2 a) (hb:bs = pre++([c]++r)) (hc:c.toNat = 91) :
  ∃ a',stepT bs a = some a'∧a'.tok.kind = 6∧TokOk a'.tok ⟨6,0,pre.length,false,[c],[]⟩∧At bs (pre++[c]).length (st++[c]) 6 a':=by
 have hn:=next_value (last:=2) (.inl rfl) (st:=st) (drop_pre hb);rw [if_neg (by omega),if_pos ⟨rfl,hc⟩,tok_one hb] at hn;exact ⟨_,stepT_at h hb (sk_head (blank_no (by omega)) (by omega)) hn,rfl,⟨rfl,rfl,rfl,rfl,rfl,fun _=>rfl⟩,at_mk rfl (one_le hb) rfl⟩
theorem step_closeM {c d:UInt8} (h:At bs pre.length (st++[c]) last a) (hb:bs = pre++([d]++r)) (hc:c.toNat = 123∧d.toNat = 125∨c.toNat = 60∧d.toNat = 62) (hl:last = 4∨ValEnd last∨SepK last) :
  ∃ a',stepT bs a = some a'∧a'.tok.kind = 5∧TokOk a'.tok ⟨5,0,pre.length,false,[d],[]⟩∧At bs (pre++[d]).length st 5 a':=by
 obtain ⟨ho,hcl⟩:=open_last st c;rw [if_neg (by omega)] at ho hcl
 have hcd:d.toNat = closeT (st++[c]):=by
  rw [hcl]
  by_cases h1:c.toNat = 123
  ·rw [if_pos h1]; omega
  ·rw [if_neg h1]; omega
 have msg:∀ b,inMsg bs b (st++[c]) pre.length = withSt st (some (tokT bs pre.length 5 1 0)):=fun b=>by
  unfold inMsg; rw [drop_pre hb,List.singleton_append]; simp only; rw [if_pos hcd,List.dropLast_concat]
 have hn:nextP bs last (st++[c]) pre.length = withSt st (some (tokT bs pre.length 5 1 0)):=by
  unfold nextP
  rcases hl with rfl | hl | hl
  ·rw [if_neg (by decide),if_neg (by decide),if_neg (by decide),if_pos rfl,msg]
  ·unfold ValEnd at hl;rw [if_neg (by omega),if_neg (by omega),if_neg (by omega),if_neg (by omega),if_neg (by omega),if_neg (by omega),if_neg (by omega),if_pos ho,msg]
  ·unfold SepK at hl;rw [if_neg (by omega),if_neg (by omega),if_neg (by omega),if_neg (by omega),if_neg (by omega),if_pos hl,if_neg (by omega),if_pos ho,msg]
 rw [tok_one hb] at hn;exact ⟨_,stepT_at h hb (sk_head (blank_no (by omega)) (by omega)) hn,rfl,⟨rfl,rfl,rfl,rfl,rfl,fun _=>rfl⟩,at_mk rfl (one_le hb) rfl⟩
theorem step_closeL {c d:UInt8} (h:At bs pre.length (st++[c]) last a) (hb:bs = pre++([d]++r)) (hc:c.toNat = 91∧d.toNat = 93) (hl:last = 6∨ValEnd last) :
  ∃ a',stepT bs a = some a'∧a'.tok.kind = 7∧TokOk a'.tok ⟨7,0,pre.length,false,[d],[]⟩∧At bs (pre++[d]).length st 7 a':=by
 obtain ⟨ho,hcl⟩:=open_last st c;rw [if_pos hc.1] at ho
 have hn:nextP bs last (st++[c]) pre.length = withSt st (some (tokT bs pre.length 7 1 0)):=by
  rcases hl with rfl | hl
  ·rw [next_value (.inr (.inl rfl)) (drop_pre hb),if_neg (by omega),if_neg (by omega),if_pos ⟨rfl,hc.2⟩,List.dropLast_concat]
  ·unfold ValEnd at hl;unfold nextP;rw [if_neg (by omega),if_neg (by omega),if_neg (by omega),if_neg (by omega),if_neg (by omega),if_neg (by omega),if_neg (by omega),if_neg (by omega)];unfold inList;rw [drop_pre hb,List.singleton_append]; simp only; rw [if_pos hc.2,List.dropLast_concat]
 rw [tok_one hb] at hn;exact ⟨_,stepT_at h hb (sk_head (blank_no (by omega)) (by omega)) hn,rfl,⟨rfl,rfl,rfl,rfl,rfl,fun _=>rfl⟩,at_mk rfl (one_le hb) rfl⟩
theorem step_sep {d:UInt8} (h:At bs pre.length st last a) (hb:bs = pre++([d]++r)) (hd:d.toNat = 44∨d.toNat = 59∧openK st≠6) (hl:ValEnd last) (ho:openK st = 0∨openK st = 4∨openK st = 6) :
  ∃ a',stepT bs a = some a'∧(a'.tok.kind = if d.toNat = 44 then 8 else 9)∧At bs (pre++[d]).length st (if d.toNat = 44 then 8 else 9) a':=by
 have hn:nextP bs last st pre.length = withSt st (some (tokT bs pre.length (if d.toNat = 44 then 8 else 9) 1 0)):=by
  unfold ValEnd at hl;unfold nextP;rw [if_neg (by omega),if_neg (by omega),if_neg (by omega),if_neg (by omega),if_neg (by omega),if_neg (by omega)]
  rcases ho with ho | ho | ho
  ·rw [if_pos ho];unfold inTop;rw [drop_pre hb,List.singleton_append]; simp only
   by_cases h44:d.toNat = 44
   ·rw [if_pos ⟨trivial,h44⟩,if_pos h44]
   ·rw [if_neg (by omega),if_pos ⟨trivial,by omega⟩,if_neg h44]
  ·rw [if_neg (by omega),if_pos ho];have hcl:=close_is st ho;unfold inMsg;rw [drop_pre hb,List.singleton_append]; simp only;rw [if_neg (by omega),if_neg (by omega)]
   by_cases h44:d.toNat = 44
   ·rw [if_pos ⟨trivial,h44⟩,if_pos h44]
   ·rw [if_neg (by omega),if_pos ⟨trivial,by omega⟩,if_neg h44]
  ·rw [if_neg (by omega),if_neg (by omega)];unfold inList;rw [drop_pre hb,List.singleton_append]; simp only
   have h44:d.toNat = 44:=by omega
   rw [if_neg (by omega),if_pos h44,if_pos h44]
 rw [tok_one hb] at hn;exact ⟨_,stepT_at h hb (sk_head (blank_no (by omega)) (by omega)) hn,rfl,at_mk rfl (one_le hb) rfl⟩
theorem step_end {n:Nat} (h:At bs n st last a) (hn:goT bs n 0 = bs.length) (hl:last = 0∨ValEnd last∨SepK last) (ho:openK st = 0):∃ a',stepT bs a = some a'∧a'.tok.kind = 1:=by
 have hd:bs.drop bs.length = []:=List.drop_length
 have top:∀ b,inTop bs b st bs.length = withSt st (some (tokT bs bs.length 1 0 0)):=fun b=>by unfold inTop; rw [hd]
 have hk:nextP bs last st bs.length = withSt st (some (tokT bs bs.length 1 0 0)):=by
  unfold nextP
  rcases hl with rfl | hl | hl
  ·rw [if_neg (by decide),if_pos rfl,top]
  ·unfold ValEnd at hl;rw [if_neg (by omega),if_neg (by omega),if_neg (by omega),if_neg (by omega),if_neg (by omega),if_neg (by omega),if_pos ho,top]
  ·unfold SepK at hl;rw [if_neg (by omega),if_neg (by omega),if_neg (by omega),if_neg (by omega),if_neg (by omega),if_pos hl,if_pos ho,top]
 unfold stepT;rw [nextT_eq,h.pos,hn,h.last,h.st,hk];exact ⟨_,rfl,rfl⟩
end
structure NameLex (x:List UInt8) (nk:Nat) (str:List UInt8):Prop where
 head:∃ c y,x = c::y∧NHead c
 next:∀ bs n r,bs.drop n = x++r→endT r = true→∃ t:TT,fieldT bs n = some (sepT bs (t,goT bs (n+x.length) 0))∧t.kind = 2∧t.att = nk∧t.sep = false∧t.pos = n∧t.raw = x∧(if nk = 2 then t.str else x) = str
theorem take_all {bs x r:List UInt8} {n:Nat} (h:bs.drop n = x++r):(bs.drop n).take x.length = x:=by rw [h,List.take_left]
theorem step_name {bs pre x r st str:List UInt8} {last nk:Nat} {a:DT} (h:At bs pre.length st last a) (hF:FieldAt st last) (hx:NameLex x nk str) (hb:bs = pre++(x++r)) (hr:endT r = true) :
  ∃ t:TT,stepT bs a = some ⟨false,(sepT bs (t,goT bs (pre++x).length 0)).1,false,st,(sepT bs (t,goT bs (pre++x).length 0)).2⟩∧t.kind = 2∧t.att = nk∧t.sep = false∧t.pos = pre.length∧t.raw = x∧(if nk = 2 then t.str else x) = str:=by
 obtain ⟨c,y,rfl,hc⟩:=hx.head;obtain ⟨t,h1,h2⟩:=hx.next bs pre.length r (drop_pre hb) hr;have hn:=next_field hF (drop_pre hb) hc;rw [h1] at hn;refine ⟨t,?_,h2⟩;rw [List.length_append];exact stepT_at h hb (skT_stop hc.1 hc.2.1) hn
theorem tok_name {t:TT} {n nk:Nat} {x str:List UInt8} (b:Bool) (h:t.kind = 2∧t.att = nk∧t.sep = false∧t.pos = n∧t.raw = x∧(if nk = 2 then t.str else x) = str) (hb:t.sep = b∨b = true):TokOk (if b then { t with sep:=true } else t) ⟨2,nk,n,b,x,str⟩:=by
 obtain ⟨h1,h2,h3,h4,h5,h6⟩:=h
 cases b with
 | false=>exact ⟨h1,by simp [outT,h1,h2],h4,by simp [outT,h1,h3],by simp [outT,h1,h2,h5,h6],fun _=>h5⟩
 | true=>exact ⟨h1,by simp [outT,h1,h2],h4,by simp [outT,h1],by simp [outT,h1,h2,h5,h6],fun _=>h5⟩
theorem step_colon {bs pre x b r st str:List UInt8} {last nk:Nat} {a:DT} (h:At bs pre.length st last a) (hF:FieldAt st last) (hx:NameLex x nk str) (hk:Blk b) (hb:bs = pre++(x++(b++([58]++r)))) :
  ∃ a',stepT bs a = some a'∧a'.tok.kind = 2∧TokOk a'.tok ⟨2,nk,pre.length,true,x,str⟩∧At bs (pre++x++b++[58]).length st 2 a':=by
 obtain ⟨t,h1,h2⟩:=step_name h hF hx hb (endT_blk hk (by rfl))
 have hb2:bs = (pre++x)++(b++([58]++r)):=by rw [hb]; simp only [List.append_assoc]
 have hb3:bs = (pre++x++b)++([58]++r):=by rw [hb2]; simp only [List.append_assoc]
 have hg:goT bs (pre++x).length 0 = (pre++x++b).length:=by rw [goT_blk hb2 hk,goT_stop hb3 (skT_stop (by decide) (by decide))]
 have hd:bs.drop (goT bs (pre++x).length 0) = 58::r:=by rw [hg,drop_pre hb3]; try rfl
 rw [sepT_cons hd,if_pos (by decide)] at h1;refine ⟨_,h1,h2.1,tok_name true h2 (.inr rfl),at_mk ?_ (one_le hb3) h2.1⟩;rw [hg,goT_addF,List.length_append (bs:=[58])]
 try rfl
theorem step_bare {bs pre x b r st str:List UInt8} {c:UInt8} {last nk:Nat} {a:DT} (h:At bs pre.length st last a) (hF:FieldAt st last) (hx:NameLex x nk str) (hk:Blk b) (hb:bs = pre++(x++(b++(c::r)))) (hc:c.toNat = 123∨c.toNat = 60∨c.toNat = 91) :
  ∃ a',stepT bs a = some a'∧a'.tok.kind = 2∧TokOk a'.tok ⟨2,nk,pre.length,false,x,str⟩∧At bs (pre++x++b).length st 2 a':=by
 have hbl:blankT c = false:=blank_no (by omega);obtain ⟨t,h1,h2⟩:=step_name h hF hx hb (endT_blk hk (by show delC c = true; unfold delC; simp; omega))
 have hb2:bs = (pre++x)++(b++(c::r)):=by rw [hb]; simp only [List.append_assoc]
 have hb3:bs = (pre++x++b)++(c::r):=by rw [hb2]; simp only [List.append_assoc]
 have hg:goT bs (pre++x).length 0 = (pre++x++b).length:=by rw [goT_blk hb2 hk,goT_stop hb3 (skT_stop hbl (by omega))]
 have hd:bs.drop (goT bs (pre++x).length 0) = c::r:=by rw [hg,drop_pre hb3]
 rw [sepT_cons hd,if_neg (by omega)] at h1;refine ⟨_,h1,h2.1,tok_name false h2 (.inl h2.2.2.1),at_mk ?_ (by rw [hb3]; simp) h2.1⟩;rw [hg,goT_stop hb3 (skT_stop hbl (by omega))]
def After (r:List UInt8):Prop:=endT r = true∧quotedB (csT r) = false
structure ScalLex (x:List UInt8):Prop where
 head:∃ c y,x = c::y∧blankT c = false∧c.toNat≠35∧c.toNat≠123∧c.toNat≠60∧c.toNat≠91∧c.toNat≠93
 next:∀ bs n r,bs.drop n = x++r→After r→∃ t:TT,scalarT bs n = some (t,goT bs (n+x.length) 0)∧t.kind = 3∧t.pos = n∧(quotedB x = false→t.raw = x)
theorem step_scalar {bs pre x r st:List UInt8} {last:Nat} {a:DT} (h:At bs pre.length st last a) (hV:ValueAt st last) (hx:ScalLex x) (hb:bs = pre++(x++r)) (hr:After r) :
  ∃ a',stepT bs a = some a'∧a'.tok.kind = 3∧TokOk a'.tok ⟨3,0,pre.length,false,x,[]⟩∧At bs (pre++x).length st 3 a':=by
 obtain ⟨c,y,rfl,h1,h2,h3,h4,h5,h6⟩:=hx.head;obtain ⟨t,g1,g2,g3,g4⟩:=hx.next bs pre.length r (drop_pre hb) hr;have hn:=next_value hV (drop_pre hb);rw [if_neg (by omega),if_neg (by omega),if_neg (by omega),g1] at hn;refine ⟨_,stepT_at h hb (skT_stop h1 h2) hn,g2,⟨g2,by simp [outT,g2],g3,by simp [outT,g2],by simp [outT,g2],g4⟩,at_mk ?_ (by rw [hb]; simp) g2⟩;rw [List.length_append]
end Go.Proofs.YtgdnpnipahegaaaGreatDoor
