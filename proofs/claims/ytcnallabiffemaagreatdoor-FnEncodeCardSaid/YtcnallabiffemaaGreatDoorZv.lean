/- The encoder's states between its steps, and what each step makes of them. -/
import Derived.Test.YtcnallabiffemaaGreatDoorZd
import Derived.Test.YtcnallabiffemaaGreatDoorZt6
import Derived.Test.YtcnallabiffemaaGreatDoorZu
import Derived.Test.YtcnallabiffemaaGreatDoorZg2
set_option linter.unusedVariables false
set_option linter.unusedSimpArgs false
namespace Go.Proofs.YtcnallabiffemaaGreatDoor
section
open Go.RowKit
def padN (p:Nat):Nat:=if 149*p%253+130>254 then 149*p%253+130-254 else 149*p%253+130
def basicC (m x:Nat):Nat:=if x=3 then 32 else if x<14 then x+44 else if m=2 then x+83 else x+51
def shiftC (m x:Nat):Nat:=if m=2 then x+64 else x+96
def stepV (m:Nat) (st:Nat×List Nat) (x:Nat):Option (Nat×List Nat):=
 if st.1=0 then(if x<3 then some (x+1,st.2)else if x<40 then some (0,st.2++[basicC m x])else none)
 else if st.1=3∧1≤x∧x≤26 then some (0,st.2++[shiftC m x])else none
def foldV (m:Nat):Nat×List Nat→List Nat→Option (Nat×List Nat)
 |st,[]=>some st
 |st,x::r=>(stepV m st x).bind fun s=>foldV m s r
theorem foldV_append (m:Nat):∀(xs ys:List Nat) (st:Nat×List Nat),foldV m st (xs++ys)=(foldV m st xs).bind fun s=>foldV m s ys
 |[],ys,st=>rfl
 |x::xs,ys,st=>by
  simp only[List.cons_append,foldV]
  cases stepV m st x with
  |none=>rfl
  |some s=>simp only[Option.bind_some];exact foldV_append m xs ys s
inductive RT (l:List Nat) (m:Nat):Nat→Nat→List Nat→Nat→List Nat→Prop
 |unl {s k out}:k<l.length→l.getD k 0=254→RT l m s k out (k+1) out
 |end0 {s k out}:l.length≤k→RT l m s k out k out
 |end1 {s k out}:k+1=l.length→l.getD k 0≠254→RT l m s k out k out
 |tri {s k out a b d s1 o1 s2 o2 s3 o3 k' out'}:k+1<l.length→a<40→b<40→d<40→l.getD k 0=(1600*a+40*b+d+1)/256→l.getD (k+1) 0=(1600*a+40*b+d+1)%256→
   stepV m (s,out) a=some (s1,o1)→stepV m (s1,o1) b=some (s2,o2)→stepV m (s2,o2) d=some (s3,o3)→RT l m s3 (k+2) o3 k' out'→RT l m s k out k' out'
inductive RA (l:List Nat):Nat→List Nat→List Nat→Prop
 |fin {k out}:l.length≤k→RA l k out out
 |chr {k out f}:k<l.length→1≤l.getD k 0→l.getD k 0≤128→RA l (k+1) (out++[l.getD k 0-1]) f→RA l k out f
 |pair {k out f}:k<l.length→130≤l.getD k 0→l.getD k 0≤229→RA l (k+1) (out++[48+(l.getD k 0-130)/10,48+(l.getD k 0-130)%10]) f→RA l k out f
 |seg {k out f k' out'} (m:Nat):k<l.length→(m=1∧l.getD k 0=230)∨(m=2∧l.getD k 0=239)→RT l m 0 (k+1) out k' out'→RA l k' out' f→RA l k out f
 |pad {k out}:k<l.length→l.getD k 0=129→(∀j,k<j→j<l.length→l.getD j 0=padN (j+1))→RA l k out out
theorem RA.ne254 {l:List Nat} {k:Nat} {out f:List Nat} (h:RA l k out f) (hk:k<l.length):l.getD k 0≠254:=by
 cases h<;>omega
end
section
open Go.RowKit
theorem cut {l ys:List Nat} {k x:Nat} (h:l.drop k=x::ys):k<l.length∧l.getD k 0=x∧l.drop (k+1)=ys:=by
 have hk:k<l.length:=by
  rcases Nat.lt_or_ge k l.length with h1|h1
  ·exact h1
  ·rw[List.drop_eq_nil_of_le h1]at h;cases h
 rw[List.drop_eq_getElem_cons hk]at h
 injection h with h1 h2
 exact⟨hk,by rw[List.getD_eq_getElem?_getD,List.getElem?_eq_getElem hk,Option.getD_some,h1],h2⟩
theorem RT_trips {l:List Nat} {m:Nat}:∀(n:Nat) (xs r:List Nat) (k s:Nat) (out:List Nat) (s':Nat) (out':List Nat) (k2:Nat) (o2:List Nat),xs.length≤n→xs.length%3=0→(∀x∈xs,x<40)→l.drop k=trips xs++r→
 foldV m (s,out) xs=some (s',out')→RT l m s' (k+(trips xs).length) out' k2 o2→RT l m s k out k2 o2
 |_,[],r,k,s,out,s',out',k2,o2,_,_,_,_,hf,h=>by
  simp only[foldV,Option.some.injEq,Prod.mk.injEq]at hf
  obtain⟨rfl,rfl⟩:=hf
  simpa[trips]using h
 |_,[_],_,_,_,_,_,_,_,_,_,h3,_,_,_,_=>by simp at h3
 |_,[_,_],_,_,_,_,_,_,_,_,_,h3,_,_,_,_=>by simp at h3
 |0,_::_::_::_,_,_,_,_,_,_,_,_,h,_,_,_,_,_=>by simp at h
 |n+1,a::b::d::xs,r,k,s,out,s',out',k2,o2,hn,h3,hx,hl,hf,h=>by
  simp only[trips,cw3,List.cons_append,List.nil_append,List.append_assoc]at hl
  obtain⟨k1,e1,h1⟩:=cut hl
  obtain⟨k2',e2,h2⟩:=cut h1
  simp only[foldV]at hf
  rcases q1:stepV m (s,out) a with _|⟨s1,t1⟩
  ·rw[q1]at hf;cases hf
  rw[q1,Option.bind_some]at hf
  rcases q2:stepV m (s1,t1) b with _|⟨s2,t2⟩
  ·rw[q2]at hf;cases hf
  rw[q2,Option.bind_some]at hf
  rcases q3:stepV m (s2,t2) d with _|⟨s3,t3⟩
  ·rw[q3]at hf;cases hf
  rw[q3,Option.bind_some]at hf
  refine .tri k2' (hx a (by simp)) (hx b (by simp)) (hx d (by simp)) e1 e2 q1 q2 q3 ?_
  refine RT_trips n xs r (k+2) s3 t3 s' out' k2 o2 (by simp at hn;omega) (by simp at h3;omega) (fun x h=>hx x (by simp[h])) h2 hf ?_
  have:k+2+(trips xs).length=k+(trips (a::b::d::xs)).length:=by simp[trips,cw3];omega
  rw[this];exact h
theorem foldV_vals {fn ch:Nat} (hf:fn=124∨fn=125) (h:clsOf ch<4) (out:List Nat):foldV (if fn=124 then 1 else 2) (0,out) (valsOf fn ch)=some (0,out++[ch]):=by
 rcases cls_cases h with⟨e,h1⟩|⟨e,h1,h2⟩|⟨e,h1,h2⟩|⟨e,h1,h2⟩
 ·rcases hf with rfl|rfl
  ·rw[show valsOf 124 ch=[3]from cVals_3 e,h1];rfl
  ·rw[show valsOf 125 ch=[3]from tVals_3 e,h1];rfl
 ·rcases hf with rfl|rfl
  ·have a1:¬ch-44<3:=by omega
   have a2:ch-44<40:=by omega
   have a3:¬ch-44=3:=by omega
   have a4:ch-44<14:=by omega
   have a5:ch-44+44=ch:=by omega
   simp[valsOf,cVals_2 e,foldV,stepV,basicC,a1,a2,a3,a4,a5]
  ·have a1:¬ch-44<3:=by omega
   have a2:ch-44<40:=by omega
   have a3:¬ch-44=3:=by omega
   have a4:ch-44<14:=by omega
   have a5:ch-44+44=ch:=by omega
   simp[valsOf,tVals_2 e,foldV,stepV,basicC,a1,a2,a3,a4,a5]
 ·rcases hf with rfl|rfl
  ·have a1:¬ch-51<3:=by omega
   have a2:ch-51<40:=by omega
   have a3:¬ch-51=3:=by omega
   have a4:¬ch-51<14:=by omega
   have a5:ch-51+51=ch:=by omega
   simp[valsOf,cVals_0 e,foldV,stepV,basicC,a1,a2,a3,a4,a5]
  ·have a1:1≤ch-64:=by omega
   have a2:ch-64≤26:=by omega
   have a5:ch-64+64=ch:=by omega
   simp[valsOf,tVals_0 e,foldV,stepV,shiftC,a1,a2,a5]
 ·rcases hf with rfl|rfl
  ·have a1:1≤ch-96:=by omega
   have a2:ch-96≤26:=by omega
   have a5:ch-96+96=ch:=by omega
   simp[valsOf,cVals_1 e,foldV,stepV,shiftC,a1,a2,a5]
  ·have a1:¬ch-83<3:=by omega
   have a2:ch-83<40:=by omega
   have a3:¬ch-83=3:=by omega
   have a4:¬ch-83<14:=by omega
   have a5:ch-83+83=ch:=by omega
   simp[valsOf,tVals_1 e,foldV,stepV,basicC,a1,a2,a3,a4,a5]
theorem vals_lt {fn ch:Nat} (hf:fn=124∨fn=125) (h:clsOf ch<4):∀x∈valsOf fn ch,x<40:=by
 intro x hx
 rcases cls_cases h with⟨e,h1⟩|⟨e,h1,h2⟩|⟨e,h1,h2⟩|⟨e,h1,h2⟩<;>rcases hf with rfl|rfl<;>(simp[valsOf,cVals,tVals,e]at hx;omega)
def flatV (fn:Nat) (cs:List Nat):List Nat:=cs.flatMap (valsOf fn)
theorem foldV_flat {fn:Nat} (hf:fn=124∨fn=125):∀(cs out:List Nat),(∀c∈cs,clsOf c<4)→foldV (if fn=124 then 1 else 2) (0,out) (flatV fn cs)=some (0,out++cs)
 |[],out,_=>by simp[flatV,foldV]
 |c::cs,out,h=>by
  have e:flatV fn (c::cs)=valsOf fn c++flatV fn cs:=by simp[flatV]
  rw[e,foldV_append,foldV_vals hf (h c (by simp)),Option.bind_some,foldV_flat hf cs _ (fun x hx=>h x (by simp[hx]))]
  simp
theorem flatV_lt {fn:Nat} (hf:fn=124∨fn=125) {cs:List Nat} (h:∀c∈cs,clsOf c<4):∀x∈flatV fn cs,x<40:=by
 intro x hx
 simp only[flatV,List.mem_flatMap]at hx
 obtain⟨c,hc,hx⟩:=hx
 exact vals_lt hf (h c hc) x hx
end
section
open Go.RowKit
theorem find_mono {α:Type} {P Q:α→Bool} {j:α}:∀{l:List α},l.find? P=some j→(∀x,Q x=true→P x=true)→Q j=true→l.find? Q=some j
 |[],h,_,_=>by simp at h
 |x::l,h,hq,hj=>by
  rw[List.find?_cons]at h ⊢
  by_cases hp:P x=true
  ·rw[hp]at h
   simp only[Option.some.injEq]at h
   subst h
   rw[hj]
  ·have hp':P x=false:=by simpa using hp
   have hq':Q x=false:=by
    rcases hc:Q x with _|_
    ·rfl
    ·exact absurd (hq x hc) hp
   rw[hp']at h
   rw[hq']
   exact find_mono h hq hj
theorem look_mono {a b:Int} {s j:Nat} (h:lookSym a s=some j) (hab:a≤b) (hj:b≤dataOf j):lookSym b s=some j:=by
 have h1:=List.find?_some h
 refine find_mono h (fun x hx=>?_) ?_
 ·simp only[fitsSym,Bool.and_eq_true,decide_eq_true_eq]at hx ⊢
  exact⟨hx.1,by omega⟩
 ·simp only[fitsSym,Bool.and_eq_true,decide_eq_true_eq]at h1 ⊢
  exact⟨h1.1,hj⟩
theorem look_some1 {k:Nat} {s:Nat} (hs:s<3) (hk:k≤if s=2 then 49 else 1304):∃i,lookSym (k:Int) s=some i:=by
 unfold lookSym
 rcases e:(List.range 30).find? (fitsSym (k:Int) s)with _|i
 ·exfalso
  rw[List.find?_eq_none]at e
  by_cases h2:s=2
  ·subst h2
   rw[if_pos rfl]at hk
   have:=(by decide+kernel:∃i,i∈List.range 30∧rectOf i=true∧(49:Int)≤dataOf i)
   obtain⟨i,hi,hr,hd⟩:=this
   refine e i hi ?_
   simp only[fitsSym,hr,Bool.and_eq_true,decide_eq_true_eq]
   refine⟨by decide,by omega⟩
  ·rw[if_neg h2]at hk
   have:=(by decide+kernel:∃i,i∈List.range 30∧rectOf i=false∧(1304:Int)≤dataOf i)
   obtain⟨i,hi,hr,hd⟩:=this
   refine e i hi ?_
   have h2':(s==2)=false:=by simpa using h2
   simp only[fitsSym,hr,h2',Bool.and_eq_true,decide_eq_true_eq]
   refine⟨by simp,by omega⟩
 ·exact⟨i,rfl⟩
def SymOk (shape k:Nat) (sym:Option (Nat×Nat)):Prop:=∀j b,sym=some (j,b)→∃k',k'≤k∧lookSym (k':Int) shape=some j
theorem SymOk.hj {shape k i:Nat} {sym:Option (Nat×Nat)} (h:SymOk shape k sym) {m:Nat} (hm:k≤m) (hl:lookSym (m:Int) shape=some i):∀j b,sym=some (j,b)→(m:Int)≤dataOf j→j=i:=by
 intro j b e hd
 obtain⟨k',h1,h2⟩:=h j b e
 have:=look_mono h2 (by omega) hd
 rw[this]at hl
 exact Option.some.inj hl
theorem SymOk.mono {shape k m:Nat} {sym:Option (Nat×Nat)} (h:SymOk shape k sym) (hm:k≤m):SymOk shape m sym:=fun j b e=>by
 obtain⟨k',h1,h2⟩:=h j b e
 exact⟨k',by omega,h2⟩
theorem SymOk.none (shape k:Nat):SymOk shape k none:=fun j b e=>by cases e
theorem SymOk.some {shape k i b:Nat} (h:lookSym (k:Int) shape=some i):SymOk shape k (some (i,b)):=fun j b' e=>by
 simp only[Option.some.injEq,Prod.mk.injEq]at e
 exact⟨k,Nat.le_refl _,by rw[←e.1];exact h⟩
def RdC (msg cw:List Nat) (p:Nat) (C:Nat→Prop):Prop:=∀r f,C (cw.length+r.length)→RA (cw++r) cw.length (msg.take p) f→RA (cw++r) 0 [] f
def RdS (fn:Nat) (msg cw:List Nat) (p:Nat):Prop:=∀r k' o' f,RT (cw++r) (mo fn) 0 cw.length (msg.take p) k' o'→RA (cw++r) k' o' f→RA (cw++r) 0 [] f
theorem RdC.start (msg:List Nat):RdC msg [] 0 fun _=>True:=fun r f _ h=>by simpa using h
theorem len_mid {C:Nat→Prop} {cw r:List Nat} {x:Nat} (h:C ((cw++[x]).length+r.length)):C (cw.length+([x]++r).length):=by
 have e:(cw++[x]).length+r.length=cw.length+([x]++r).length:=by simp only[List.length_append,List.length_cons,List.length_nil];omega
 rwa [e]at h
theorem getD_mid (cw r:List Nat) (x:Nat):(cw++x::r).getD cw.length 0=x:=by rw[List.getD_eq_getElem?_getD,List.getElem?_append_right (Nat.le_refl _)];simp
theorem take_one {msg:List Nat} {p:Nat} (h:p<msg.length):msg.take (p+1)=msg.take p++[msg.getD p 0]:=by rw[take_snoc h]
theorem RdC.chr {msg cw:List Nat} {p:Nat} {C C':Nat→Prop} (h:RdC msg cw p C) (hp:p<msg.length) (h4:clsOf (msg.getD p 0)<4) (hC:∀n,C' n→C n):RdC msg (cw++[msg.getD p 0+1]) (p+1) C':=by
 intro r f hc hr
 rw[List.append_assoc]at hr ⊢
 refine h _ f (hC _ (len_mid hc)) ?_
 have e:((cw++([msg.getD p 0+1]++r)).getD cw.length 0)=msg.getD p 0+1:=getD_mid cw r _
 have hb:=cls_cases h4
 refine .chr (by simp) (by omega) (by omega) ?_
 rw[e,Nat.add_sub_cancel,←take_one hp]
 simpa using hr
theorem dig_bounds {n:Nat} (h:isDig n=true):48≤n∧n≤57:=by simpa[isDig]using h
theorem RdC.pair {msg cw:List Nat} {p:Nat} {C C':Nat→Prop} (h:RdC msg cw p C) (hp:p+1<msg.length) (h1:isDig (msg.getD p 0)=true) (h2:isDig (msg.getD (p+1) 0)=true) (hC:∀n,C' n→C n):
 RdC msg (cw++[pairOf (msg.getD p 0) (msg.getD (p+1) 0)]) (p+2) C':=by
 intro r f hc hr
 rw[List.append_assoc]at hr ⊢
 refine h _ f (hC _ (len_mid hc)) ?_
 have e:((cw++([pairOf (msg.getD p 0) (msg.getD (p+1) 0)]++r)).getD cw.length 0)=pairOf (msg.getD p 0) (msg.getD (p+1) 0):=getD_mid cw r _
 have b1:=dig_bounds h1
 have b2:=dig_bounds h2
 have eb:130≤pairOf (msg.getD p 0) (msg.getD (p+1) 0)∧pairOf (msg.getD p 0) (msg.getD (p+1) 0)≤229∧48+(pairOf (msg.getD p 0) (msg.getD (p+1) 0)-130)/10=msg.getD p 0∧48+(pairOf (msg.getD p 0) (msg.getD (p+1) 0)-130)%10=msg.getD (p+1) 0:=by
  unfold pairOf;omega
 refine .pair (by simp) (by omega) (by omega) ?_
 rw[e,eb.2.2.1,eb.2.2.2]
 have:msg.take p++[msg.getD p 0,msg.getD (p+1) 0]=msg.take (p+2):=by rw[take_one (p:=p+1) hp,take_one (p:=p) (by omega),List.append_assoc];rfl
 rw[this]
 simpa using hr
theorem RdC.latch {msg cw:List Nat} {p fn x:Nat} {C:Nat→Prop} (hf:(fn=124∧x=230)∨(fn=125∧x=239)) (h:RdC msg cw p C) (hC:∀n,C n):RdS fn msg (cw++[x]) p:=by
 intro r k' o' f ht ha
 rw[List.append_assoc]at ht ha ⊢
 refine h _ f (hC _) ?_
 have e:((cw++([x]++r)).getD cw.length 0)=x:=getD_mid cw r _
 refine .seg (mo fn) (by simp) ?_ (by simpa using ht) ha
 rw[e]
 rcases hf with⟨rfl,rfl⟩|⟨rfl,rfl⟩
 ·exact .inl ⟨rfl,rfl⟩
 ·exact .inr ⟨rfl,rfl⟩
theorem drop_mid (a b c:List Nat):(a++(b++c)).drop a.length=b++c:=by simp
theorem foldV_shift {m s:Nat} {out:List Nat} {d:List Nat} (hd:d=[]∨d=[0]∨d=[2]):∃s',foldV m (0,out) d=some (s',out):=by
 rcases hd with rfl|rfl|rfl
 ·exact⟨_,rfl⟩
 ·exact⟨1,rfl⟩
 ·exact⟨3,rfl⟩
def segC (msg:List Nat) (p q:Nat):List Nat:=(msg.take q).drop p
theorem take_seg {msg:List Nat} {p q:Nat} (h:p≤q):msg.take p++segC msg p q=msg.take q:=by
 have e:msg.take p=(msg.take q).take p:=by rw[List.take_take,Nat.min_eq_left h]
 unfold segC;rw[e,List.take_append_drop]
theorem segC_mem {msg:List Nat} {p q:Nat} (h4:∀i,i<msg.length→clsOf (msg.getD i 0)<4):∀c∈segC msg p q,clsOf c<4:=by
 intro c hc
 have h1:c∈msg:=List.mem_of_mem_take (List.mem_of_mem_drop hc)
 obtain⟨i,hi,rfl⟩:=List.mem_iff_getElem.1 h1
 have:=h4 i hi
 rwa [List.getD_eq_getElem?_getD,List.getElem?_eq_getElem hi,Option.getD_some]at this
theorem RdS.unl {fn:Nat} {msg cw d:List Nat} {p q:Nat} (h:RdS fn msg cw p) (hf:fn=124∨fn=125) (h4:∀i,i<msg.length→clsOf (msg.getD i 0)<4) (hpq:p≤q) (hd:d=[]∨d=[0]∨d=[2]) (h3:(flatV fn (segC msg p q)++d).length%3=0) (C:Nat→Prop):
 RdC msg (cw++trips (flatV fn (segC msg p q)++d)++[254]) q C:=by
 intro r f _ ha
 obtain⟨xs,hxs⟩:∃xs,xs=flatV fn (segC msg p q)++d:=⟨_,rfl⟩
 rw[←hxs]at h3 ha ⊢
 obtain⟨s',hs'⟩:=foldV_shift (m:=mo fn) (s:=0) (out:=msg.take q) hd
 have hfold:foldV (mo fn) (0,msg.take p) xs=some (s',msg.take q):=by
  have:=foldV_flat hf (segC msg p q) (msg.take p) (segC_mem h4)
  rw[take_seg hpq]at this
  rw[hxs,foldV_append,show mo fn=(if fn=124 then 1 else 2)from rfl,this];exact hs'
 have hlt:∀x∈xs,x<40:=by
  intro x hx;rw[hxs]at hx
  rcases List.mem_append.1 hx with hx|hx
  ·exact flatV_lt hf (segC_mem h4) x hx
  ·rcases hd with rfl|rfl|rfl<;>simp at hx<;>omega
 simp only[List.append_assoc]at ha ⊢
 refine h _ (cw.length+(trips xs).length+1) (msg.take q) f ?_ (by simpa[Nat.add_assoc]using ha)
 refine RT_trips _ xs ([254]++r) cw.length 0 _ s' (msg.take q) _ _ (Nat.le_refl _) h3 hlt (drop_mid _ _ _) hfold ?_
 refine .unl (by simp) ?_
 have e:cw++(trips xs++([254]++r))=(cw++trips xs)++254::r:=by simp
 rw[e,show cw.length+(trips xs).length=(cw++trips xs).length by simp]
 exact getD_mid _ _ _
theorem RdS.stop {fn:Nat} {msg cw d:List Nat} {p q:Nat} (h:RdS fn msg cw p) (hf:fn=124∨fn=125) (h4:∀i,i<msg.length→clsOf (msg.getD i 0)<4) (hpq:p≤q) (hd:d=[]∨d=[0]∨d=[2]) (h3:(flatV fn (segC msg p q)++d).length%3=0):
 RdC msg (cw++trips (flatV fn (segC msg p q)++d)) q fun n=>n≤(cw++trips (flatV fn (segC msg p q)++d)).length+1:=by
 intro r f hC ha
 obtain⟨xs,hxs⟩:∃xs,xs=flatV fn (segC msg p q)++d:=⟨_,rfl⟩
 rw[←hxs]at h3 ha hC ⊢
 have hC2:(cw++trips xs).length+r.length≤(cw++trips xs).length+1:=hC
 have hr1:r.length≤1:=by omega
 clear hC hC2
 obtain⟨s',hs'⟩:=foldV_shift (m:=mo fn) (s:=0) (out:=msg.take q) hd
 have hfold:foldV (mo fn) (0,msg.take p) xs=some (s',msg.take q):=by
  have:=foldV_flat hf (segC msg p q) (msg.take p) (segC_mem h4)
  rw[take_seg hpq]at this
  rw[hxs,foldV_append,show mo fn=(if fn=124 then 1 else 2)from rfl,this];exact hs'
 have hlt:∀x∈xs,x<40:=by
  intro x hx;rw[hxs]at hx
  rcases List.mem_append.1 hx with hx|hx
  ·exact flatV_lt hf (segC_mem h4) x hx
  ·rcases hd with rfl|rfl|rfl<;>simp at hx<;>omega
 have hn:=fun hk=>RA.ne254 (k:=(cw++trips xs).length) ha hk
 simp only[List.length_append,List.append_assoc]at ha hn ⊢
 refine h _ (cw.length+(trips xs).length) (msg.take q) f ?_ ha
 refine RT_trips _ xs r cw.length 0 _ s' (msg.take q) _ _ (Nat.le_refl _) h3 hlt (drop_mid _ _ _) hfold ?_
 cases r with
 |nil=>exact .end0 (by simp)
 |cons x r=>
  have hr:r=[]:=List.eq_nil_of_length_eq_zero (by simp at hr1;exact List.length_eq_zero_iff.2 hr1)
  subst hr
  exact .end1 (by simp;omega) (hn (by simp))
end
section
open Go.RowKit
inductive Enc (msg:List Nat) (shape B:Nat):Nat→Nat→List Nat→Prop
 |norm {p:Nat} {cw:List Nat}:p≤msg.length→Tot (msg.map clsOf) 0 p cw.length→RdC msg cw p (fun _=>True)→Enc msg shape B 0 p cw
 |seg {fn p:Nat} {cw:List Nat}:fn=124∨fn=125→p+3≤msg.length→Tot (msg.map clsOf) (kb fn) p cw.length→RdS fn msg cw p→Enc msg shape B (mo fn) p cw
 |tail {p:Nat} {cw:List Nat}:p≤msg.length→msg.length≤p+2→cw.length+(msg.length-p)≤B→RdC msg cw p (fun _=>True)→Enc msg shape B 0 p cw
 |last {p j:Nat} {cw:List Nat}:p+1=msg.length→cw.length+1≤B→lookSym (cw.length:Int) shape=some j→dataOf j=((cw.length+1:Nat):Int)→RdC msg cw p (fun n=>n≤cw.length+1)→Enc msg shape B 0 p cw
 |done {p j:Nat} {cw:List Nat} {C:Nat→Prop}:p=msg.length→cw.length≤B→lookSym (cw.length:Int) shape=some j→RdC msg cw p C→C (dataOf j).toNat→Enc msg shape B 0 p cw
section
variable {msg:List Nat} {shape B m p:Nat} {cw:List Nat}
theorem Enc.start (msg:List Nat) (shape B:Nat):Enc msg shape B 0 0 []:= .norm (Nat.zero_le _) (Tot.start _) (RdC.start msg)
theorem kb_key {fn:Nat} (hf:fn=124∨fn=125) {s:Nat} (hs:s<3):kb fn+s=0∨(∃t,t<3∧kb fn+s=8+t)∨∃t,t<3∧kb fn+s=16+t:=by
 rcases hf with rfl|rfl
 ·exact .inr (.inr ⟨s,hs,rfl⟩)
 ·exact .inr (.inl ⟨s,hs,rfl⟩)
theorem Enc.le (h:Enc msg shape B m p cw):p≤msg.length:=by cases h<;>omega
theorem Enc.bound (h:Enc msg shape B m p cw) (hl:msg.length≤1000) (hB:∀n,Run 0 (msg.map clsOf) n→n≤B):cw.length≤B:=by
 cases h with
 |norm h1 h2 h3=>exact h2.bound (by simpa using hl) (.inl rfl) hB
 |seg h1 h2 h3 h4=>exact h3.bound (by simpa using hl) (kb_key (s:=0) h1 (by decide)) hB
 |tail h1 h2 h3 h4=>omega
 |last h1 h2=>omega
 |done h1 h2=>exact h2
theorem map_getD {p:Nat} (h:p<msg.length):(msg.map clsOf).getD p 0=clsOf (msg.getD p 0):=by
 rw[List.getD_eq_getElem?_getD,List.getElem?_map,List.getElem?_eq_getElem h,List.getD_eq_getElem?_getD,List.getElem?_eq_getElem h];rfl
theorem map_at {p:Nat} (h:p<msg.length):(msg.map clsOf)[p]? =some (clsOf (msg.getD p 0)):=by
 rw[List.getElem?_map,List.getElem?_eq_getElem h,List.getD_eq_getElem?_getD,List.getElem?_eq_getElem h];rfl
theorem cls_dig {n:Nat} (h:isDig n=true):clsOf n=2:=by
 have:=dig_bounds h
 unfold clsOf
 rw[if_neg (by omega),if_pos this]
theorem dig_cls {n:Nat} (h:clsOf n=2):isDig n=true:=by
 rcases cls_cases (n:=n) (by omega)with h1|h1|h1|h1
 ·omega
 ·simp[isDig];omega
 ·omega
 ·omega
theorem no_pair (hp:p<msg.length) (hd:digRun (msg.drop p)<2):noPair (msg.map clsOf) p:=by
 rintro⟨h1,h2⟩
 rw[map_getD hp]at h1
 have hq:p+1<msg.length:=by
  rcases Nat.lt_or_ge (p+1) msg.length with h|h
  ·exact h
  ·rw[List.getElem?_eq_none (by simpa using h)]at h2;cases h2
 rw[map_at hq]at h2
 rw[digRun_drop hp,if_pos (dig_cls h1),digRun_drop hq,if_pos (dig_cls (Option.some.inj h2))]at hd
 omega
theorem Enc.pair (h:Enc msg shape B m p cw) (hm:m=0) (hd:2≤digRun (msg.drop p)):Enc msg shape B 0 (p+2) (cw++[pairOf (msg.getD p 0) (msg.getD (p+1) 0)]):=by
 obtain⟨hp,d1,d2⟩:=digRun_two hd
 cases h with
 |norm h1 h2 h3=>
  refine .norm (by omega) ?_ (h3.pair hp d1 d2 (fun _ _=>trivial))
  rw[List.length_append]
  exact h2.pair (by simpa using hp) (by rw[map_getD (by omega),cls_dig d1]) (by rw[map_getD hp,cls_dig d2])
 |seg h1 h2 h3 h4=>rcases h1 with rfl|rfl<;>cases hm
 |tail h1 h2 h3 h4=>exact .tail (by omega) (by omega) (by simp;omega) (h4.pair hp d1 d2 (fun _ _=>trivial))
 |last h1 h2=>omega
 |done h1 h2=>omega
theorem lk_tail (hp:p<msg.length) (h2:msg.length≤p+2) (h4:∀i,i<msg.length→clsOf (msg.getD i 0)<4):lkTest 0 ((msg.drop p).map clsOf)=0:=by
 rw[drop_cls hp]
 rcases Nat.lt_or_ge (p+1) msg.length with h|h
 ·rw[drop_cls h,List.drop_eq_nil_of_le (by omega)]
  exact lk_last2 _ (h4 p hp) _ (h4 (p+1) h)
 ·rw[List.drop_eq_nil_of_le (by omega)]
  exact lk_last1 _ (h4 p hp)
theorem Enc.one (h:Enc msg shape B m p cw) (hm:m=0) (hp:p<msg.length) (hd:digRun (msg.drop p)<2) (h4:∀i,i<msg.length→clsOf (msg.getD i 0)<4) (hr:lkTest 0 ((msg.drop p).map clsOf)=0):
 Enc msg shape B 0 (p+1) (cw++[msg.getD p 0+1]):=by
 cases h with
 |norm h1 h2 h3=>
  refine .norm (by omega) ?_ (h3.chr hp (h4 p hp) (fun _ _=>trivial))
  rw[List.length_append]
  exact h2.stay (by simpa using hp) (no_pair hp hd)
 |seg h1 h2 h3 h4=>rcases h1 with rfl|rfl<;>cases hm
 |tail h1 h2 h3 h5=>exact .tail (by omega) (by omega) (by simp;omega) (h5.chr hp (h4 p hp) (fun _ _=>trivial))
 |last h1 h2 h3 h5 h6=>
  rename_i j
  refine .done (j:=j) (C:=fun n=>n≤cw.length+1) h1 (by simpa using h2) ?_ (h6.chr hp (h4 p hp) (fun _ h=>h)) (by omega)
  refine look_mono h3 (by simp;omega) (by rw[h5];simp)
 |done h1 h2=>omega
theorem Enc.latch {fn x:Nat} (h:Enc msg shape B m p cw) (hm:m=0) (hp:p<msg.length) (hl:msg.length≤1000) (hd:digRun (msg.drop p)<2) (h4:∀i,i<msg.length→clsOf (msg.getD i 0)<4) (hf:(fn=124∧x=230)∨(fn=125∧x=239))
 (hr:lkTest 0 ((msg.drop p).map clsOf)=mo fn):Enc msg shape B (mo fn) p (cw++[x]):=by
 have hp3:p+3≤msg.length:=by
  rcases Nat.lt_or_ge (p+2) msg.length with h1|h1
  ·omega
  ·rw[lk_tail hp (by omega) h4]at hr
   rcases hf with⟨rfl,-⟩|⟨rfl,-⟩<;>cases hr
 cases h with
 |norm h1 h2 h3=>
  refine .seg (by rcases hf with⟨e,-⟩|⟨e,-⟩<;>simp[e]) hp3 ?_ (h3.latch hf (fun _=>trivial))
  rw[List.length_append]
  rw[←List.map_drop.symm]at hr
  rcases hf with⟨rfl,-⟩|⟨rfl,-⟩
  ·exact h2.toC (by simpa using hp) (by simpa using hl) (no_pair hp hd) (by simpa[mo]using hr)
  ·exact h2.toT (by simpa using hp) (by simpa using hl) (no_pair hp hd) (by simpa[mo]using hr)
 |seg h1 h2 h3 h4=>rcases h1 with rfl|rfl<;>cases hm
 |tail h1 h2 h3 h5=>omega
 |last h1 h2 h3 h5 h6=>omega
 |done h1 h2=>omega
theorem segC_snoc {q:Nat} (hpq:p≤q) (hq:q<msg.length):segC msg p (q+1)=segC msg p q++[msg.getD q 0]:=by
 unfold segC
 rw[take_one hq,List.drop_append_of_le_length (by simp;omega)]
theorem flatV_snoc {fn q:Nat} (hpq:p≤q) (hq:q<msg.length):flatV fn (segC msg p (q+1))=flatV fn (segC msg p q)++valsOf fn (msg.getD q 0):=by
 rw[segC_snoc hpq hq];simp[flatV]
theorem vals_shape {fn ch:Nat} (hf:fn=124∨fn=125) (h:clsOf ch<4):(∃x,valsOf fn ch=[x]∧xv fn (clsOf ch)=1)∨∃x,valsOf fn ch=[2,x]∧xv fn (clsOf ch)=2:=by
 rcases cls_cases h with⟨e,h1⟩|⟨e,h1,h2⟩|⟨e,h1,h2⟩|⟨e,h1,h2⟩<;>rcases hf with rfl|rfl<;>simp[valsOf,cVals,tVals,xv,cv,tv,e]
theorem vals_len {fn ch:Nat} (hf:fn=124∨fn=125) (h:clsOf ch<4):(valsOf fn ch).length=xv fn (clsOf ch):=by
 rcases vals_shape hf h with⟨x,e,e2⟩|⟨x,e,e2⟩<;>rw[e,e2]<;>rfl
theorem drop_last {fn q:Nat} (hf:fn=124∨fn=125) (hpq:p≤q) (hq:q<msg.length) (h4:clsOf (msg.getD q 0)<4):∃d,(d=[]∨d=[0]∨d=[2])∧(flatV fn (segC msg p (q+1))).take ((flatV fn (segC msg p (q+1))).length-1)=flatV fn (segC msg p q)++d:=by
 rw[flatV_snoc hpq hq]
 rcases vals_shape hf h4 with⟨x,e,-⟩|⟨x,e,-⟩
 ·refine⟨[],.inl rfl,?_⟩
  rw[e,List.append_nil]
  simp
 ·refine⟨[2],.inr (.inr rfl),?_⟩
  rw[e,show flatV fn (segC msg p q)++[2,x]=(flatV fn (segC msg p q)++[2])++[x] by simp]
  have e2:(flatV fn (segC msg p q)++[2]++[x]).length-1=(flatV fn (segC msg p q)++[2]).length:=by simp
  rw[e2]
  exact List.take_left
theorem flat_pos {fn:Nat} (hf:fn=124∨fn=125) (h4:∀i,i<msg.length→clsOf (msg.getD i 0)<4):∀q,p≤q→q≤msg.length→q-p≤(flatV fn (segC msg p q)).length∧(flatV fn (segC msg p q)).length≤2*(q-p)
 |0,h1,_=>by
  obtain rfl:p=0:=by omega
  simp[segC,flatV]
 |q+1,h1,h2=>by
  rcases Nat.lt_or_ge q p with h|h
  ·obtain rfl:p=q+1:=by omega
   have:segC msg (q+1) (q+1)=[]:=by unfold segC;exact List.drop_eq_nil_of_le (by simp;omega)
   simp[this,flatV]
  ·have ih:=flat_pos hf h4 q h (by omega)
   rw[flatV_snoc h (by omega),List.length_append]
   rcases vals_shape hf (h4 q (by omega))with⟨x,e,-⟩|⟨x,e,-⟩<;>rw[e]<;>simp<;>omega
theorem Enc.exit {fn q:Nat} (h:RdS fn msg cw p) (hf:fn=124∨fn=125) (h4:∀i,i<msg.length→clsOf (msg.getD i 0)<4) (hpq:p≤q) (hq:q≤msg.length) (h3:(flatV fn (segC msg p q)).length%3=0)
 (ht:Tot (msg.map clsOf) 0 q (cw.length+2*((flatV fn (segC msg p q)).length/3)+1)):Enc msg shape B 0 q (cw++trips (flatV fn (segC msg p q))++[254]):=by
 have hr:=h.unl (d:=[]) hf h4 hpq (.inl rfl) (by simpa using h3) (fun _=>True)
 rw[List.append_nil]at hr
 refine .norm hq ?_ hr
 rw[List.length_append,List.length_append,trips_len _ _ (Nat.le_refl _)]
 exact ht
theorem Enc.cutA {fn q:Nat} {d:List Nat} (h:RdS fn msg cw p) (hf:fn=124∨fn=125) (h4:∀i,i<msg.length→clsOf (msg.getD i 0)<4) (hpq:p≤q) (hq:q≤msg.length) (hq2:msg.length≤q+2) (hd:d=[]∨d=[0]∨d=[2])
 (h3:(flatV fn (segC msg p q)++d).length%3=0) (hb:cw.length+2*((flatV fn (segC msg p q)++d).length/3)+1+(msg.length-q)≤B):Enc msg shape B 0 q (cw++trips (flatV fn (segC msg p q)++d)++[254]):=by
 refine .tail hq hq2 ?_ (h.unl hf h4 hpq hd h3 (fun _=>True))
 rw[List.length_append,List.length_append,trips_len _ _ (Nat.le_refl _)]
 exact hb
theorem Enc.cutB {fn i:Nat} {d:List Nat} (h:RdS fn msg cw p) (hf:fn=124∨fn=125) (h4:∀i,i<msg.length→clsOf (msg.getD i 0)<4) (hpq:p≤msg.length) (hd:d=[]∨d=[0]∨d=[2])
 (h3:(flatV fn (segC msg p msg.length)++d).length%3=0) (hb:cw.length+2*((flatV fn (segC msg p msg.length)++d).length/3)≤B)
 (hlk:lookSym ((cw.length+2*((flatV fn (segC msg p msg.length)++d).length/3):Nat):Int) shape=some i) (hd2:dataOf i=((cw.length+2*((flatV fn (segC msg p msg.length)++d).length/3):Nat):Int)):
 Enc msg shape B 0 msg.length (cw++trips (flatV fn (segC msg p msg.length)++d)):=by
 have e:(cw++trips (flatV fn (segC msg p msg.length)++d)).length=cw.length+2*((flatV fn (segC msg p msg.length)++d).length/3):=by rw[List.length_append,trips_len _ _ (Nat.le_refl _)]
 refine .done (j:=i) rfl ?_ ?_ (h.stop hf h4 hpq hd h3) ?_
 ·rw[e];exact hb
 ·rw[e];exact hlk
 ·rw[e,hd2];omega
theorem Enc.cutC {fn i q:Nat} {d:List Nat} (h:RdS fn msg cw p) (hf:fn=124∨fn=125) (h4:∀i,i<msg.length→clsOf (msg.getD i 0)<4) (hpq:p≤q) (hq:q+1=msg.length) (hd:d=[]∨d=[0]∨d=[2])
 (h3:(flatV fn (segC msg p q)++d).length%3=0) (hb:cw.length+2*((flatV fn (segC msg p q)++d).length/3)+1≤B)
 (hlk:lookSym ((cw.length+2*((flatV fn (segC msg p q)++d).length/3):Nat):Int) shape=some i) (hd2:dataOf i=((cw.length+2*((flatV fn (segC msg p q)++d).length/3)+1:Nat):Int)):
 Enc msg shape B 0 q (cw++trips (flatV fn (segC msg p q)++d)):=by
 have e:(cw++trips (flatV fn (segC msg p q)++d)).length=cw.length+2*((flatV fn (segC msg p q)++d).length/3):=by rw[List.length_append,trips_len _ _ (Nat.le_refl _)]
 refine .last (j:=i) hq ?_ ?_ ?_ (h.stop hf h4 hpq hd h3)
 ·rw[e];exact hb
 ·rw[e];exact hlk
 ·rw[e];exact hd2
theorem Enc.fin (h:Enc msg shape B m p cw) (hp:p=msg.length) (hl:msg.length≤1000) (hB:∀n,Run 0 (msg.map clsOf) n→n≤B) (hs:∀k,k≤B→∃i,lookSym (k:Int) shape=some i):
 ∃i,lookSym (cw.length:Int) shape=some i∧∀r f,((cw.length+r.length:Nat):Int)=dataOf i→RA (cw++r) cw.length msg f→RA (cw++r) 0 [] f:=by
 have hb:=h.bound hl hB
 obtain⟨i,hi⟩:=hs _ hb
 refine⟨i,hi,fun r f hc hr=>?_⟩
 have e:msg.take p=msg:=List.take_of_length_le (by omega)
 cases h with
 |norm h1 h2 h3=>exact h3 r f trivial (by rw[e];exact hr)
 |seg h1 h2 h3 h4=>omega
 |tail h1 h2 h3 h5=>exact h5 r f trivial (by rw[e];exact hr)
 |last h1 h2 h3 h5 h6=>omega
 |done h1 h2 h3 h5 h6=>
  rw[hi]at h3
  injection h3 with h3
  subst h3
  exact h5 r f (by rw[←hc,Int.toNat_natCast]at h6;exact h6) (by rw[e];exact hr)
end
end
end Go.Proofs.YtcnallabiffemaaGreatDoor
