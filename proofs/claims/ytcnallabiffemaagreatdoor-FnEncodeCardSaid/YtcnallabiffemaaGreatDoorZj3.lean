/- The reference's check codewords: the walk. -/
import Derived.Test.YtcnallabiffemaaGreatDoorZh1
import Derived.Laws.CopyOwn
set_option linter.unusedVariables false
set_option linter.unusedSimpArgs false
namespace Go.Proofs.YtcnallabiffemaaGreatDoor
section
open Go.RowKit
def tim:Nat→Nat→Nat→Nat→Nat
 |0,o,_,_=>o
 |k+1,o,x,y=>if y=0 then o else tim k (if y%2=1 then o ^^^ x else o) (dblN x) (y/2)
def timesN (a b:Nat):Nat:=tim 8 0 a b
theorem tim_zero (k o x:Nat):tim k o x 0=o:=by cases k<;>simp[tim]
theorem tim_lt:∀(k o x y:Nat),o<256→x<256→tim k o x y<256
 |0,o,x,y,ho,_=>ho
 |k+1,o,x,y,ho,hx=>by
  rw[tim]
  split
  ·exact ho
  ·exact tim_lt k _ _ _ (by split<;>first|exact xor_lt ho hx|exact ho) (dblN_lt hx)
theorem timesN_lt {a:Nat} (b:Nat) (ha:a<256):timesN a b<256:=tim_lt _ _ _ _ (by omega) ha
set_option maxRecDepth 100000 in
set_option maxHeartbeats 2000000 in
theorem times_calls {a b:Nat} (ha:a<256) (hb:b<256) (w:World):
 Calls Tryz.prog 70 #[.int .i64 a,.int .i64 b] w fun e w'=>e= .returned (.int .i64 (timesN a b))∧w'=w:=by
 obtain⟨R,hR⟩:∃R,R=timesN a b:=⟨_,rfl⟩
 rw[←hR]
 have HR:=Lib.hid (show tim 8 0 a b=R from hR.symm)
 clear hR
 go_enter Tryz.func70,Tryz.ntmps70
 go_wp2
 go_loop [5,0,1] (fun o x y=>∃k o' x' y':Nat,o= .int .i64 o'∧x= .int .i64 x'∧y= .int .i64 y'∧o'<256∧x'<256∧y'<256∧Hid (y'<2^k)∧Hid (tim k o' x' y'=R)) (fun _ _ y=>(intOf y).toNat)
 case atStart=>exact⟨8,0,a,b,rfl,rfl,rfl,by omega,ha,hb,hb,HR.out⟩
 case round=>
  obtain⟨k,o,x,y,rfl,rfl,rfl,ho,hx,hy,hk,ht⟩:=hrel
  by_cases hy0:0<y
  ·obtain⟨k,rfl⟩:∃j,k=j+1:=by
    rcases k with _|k
    ·have:=hk.out;simp at this;omega
    ·exact⟨k,rfl⟩
   have hyi:(0:Int)<(y:Int):=by omega
   have hand:bits .and .i64 (y:Int) 1=((y%2:Nat):Int):=by rw[show (1:Int)=((1:Nat):Int)from rfl,and64 y 1 (by omega) (by omega),Nat.and_one_is_mod]
   have hxor:bits .xor .i64 (o:Int) (x:Int)=((o ^^^ x:Nat):Int):=xor64 o x (by omega) (by omega)
   have ht':=ht.out
   rw[tim,if_neg (by omega)]at ht'
   have hk2:y/2<2^k:=by have:=hk.out;rw[Nat.pow_succ]at this;omega
   have HK:=Lib.hid hk2
   rcases(by omega:y%2=1∨y%2=0)with hp|hp
   ·rw[if_pos hp]at ht'
    rw[hp]at hand
    by_cases hb2:256≤2*x
    ·skip
     have hd2:dblN x=(2*x) ^^^ 301:=by unfold dblN;rw[if_pos hb2]
     have hxo:bits .xor .i64 ((x:Int)*2) 301=((dblN x:Nat):Int):=by
      rw[hd2,show (x:Int)*2=((2*x:Nat):Int) by omega,show (301:Int)=((301:Nat):Int)from rfl,xor64 _ _ (by omega) (by omega)]
     have hbi:(255:Int)<(x:Int)*2:=by omega
     have HT:=Lib.hid ht'
     have hdl:=dblN_lt hx
     have hol:=xor_lt ho hx
     clear ht' hk2 hd2 hp hk ht
     go_wp2
     exact⟨⟨k,o ^^^ x,dblN x,y/2,rfl,rfl,by simp,hol,hdl,by omega,HK,HT⟩,by simp[intOf];omega⟩
    ·skip
     have hd2:(x:Int)*2=((dblN x:Nat):Int):=by unfold dblN;rw[if_neg hb2];omega
     have hbi:¬(255:Int)<(x:Int)*2:=by omega
     have HD2:=Lib.hid hd2
     have HT:=Lib.hid ht'
     have hdl:=dblN_lt hx
     have hol:=xor_lt ho hx
     clear ht' hk2 hd2 hp hk ht
     go_wp2
     exact⟨⟨k,o ^^^ x,dblN x,y/2,rfl,by rw[HD2.out],by simp,hol,hdl,by omega,HK,HT⟩,by simp[intOf];omega⟩
   ·rw[if_neg (by omega)]at ht'
    rw[hp]at hand
    by_cases hb2:256≤2*x
    ·skip
     have hd2:dblN x=(2*x) ^^^ 301:=by unfold dblN;rw[if_pos hb2]
     have hxo:bits .xor .i64 ((x:Int)*2) 301=((dblN x:Nat):Int):=by
      rw[hd2,show (x:Int)*2=((2*x:Nat):Int) by omega,show (301:Int)=((301:Nat):Int)from rfl,xor64 _ _ (by omega) (by omega)]
     have hbi:(255:Int)<(x:Int)*2:=by omega
     have HT:=Lib.hid ht'
     have hdl:=dblN_lt hx
     have hol:=xor_lt ho hx
     clear ht' hk2 hd2 hp hk ht
     go_wp2
     exact⟨⟨k,o,dblN x,y/2,rfl,rfl,by simp,ho,hdl,by omega,HK,HT⟩,by simp[intOf];omega⟩
    ·skip
     have hd2:(x:Int)*2=((dblN x:Nat):Int):=by unfold dblN;rw[if_neg hb2];omega
     have hbi:¬(255:Int)<(x:Int)*2:=by omega
     have HD2:=Lib.hid hd2
     have HT:=Lib.hid ht'
     have hdl:=dblN_lt hx
     have hol:=xor_lt ho hx
     clear ht' hk2 hd2 hp hk ht
     go_wp2
     exact⟨⟨k,o,dblN x,y/2,rfl,by rw[HD2.out],by simp,ho,hdl,by omega,HK,HT⟩,by simp[intOf];omega⟩
  ·obtain rfl:y=0:=by omega
   have hh:=ht.out
   rw[tim_zero]at hh
   subst hh
   go_wp2
   go_ret
   exact⟨rfl,rfl⟩
end
section
open Go.RowKit
def genIn (g:List Nat) (root:Nat):Nat→List Nat
 |0=>g++[0]
 |j+1=>(genIn g root j).set (j+1) ((genIn g root j).getD (j+1) 0 ^^^ timesN (g.getD j 0) root)
def rootN:Nat→Nat
 |0=>2
 |i+1=>timesN (rootN i) 2
def genN:Nat→List Nat
 |0=>[1]
 |i+1=>genIn (genN i) (rootN i) (genN i).length
def genFast:Nat→List Nat→Nat→List Nat
 |0,g,_=>g
 |n+1,g,r=>genFast n ((g++[0]).zipWith (fun a b=>a ^^^ timesN b r) (0::g)) (timesN r 2)
def inTo (lead:Nat) (g:List Nat) (sh:List Nat):Nat→List Nat
 |0=>sh
 |i+1=>(inTo lead g sh i).set i ((inTo lead g sh i).getD i 0 ^^^ timesN lead (g.getD (i+1) 0))
def restStep (g:List Nat) (rest:List Nat) (d:Nat):List Nat:=inTo (d ^^^ rest.getD 0 0) g (rest.drop 1++[0]) rest.length
def checkN (data:List Nat) (n:Nat):List Nat:=data.foldl (restStep (genN n)) (List.replicate n 0)
theorem genIn_len (g:List Nat) (root j:Nat):(genIn g root j).length=g.length+1:=by
 induction j with
 |zero=>simp[genIn]
 |succ j ih=>simp[genIn,ih]
theorem genN_len (i:Nat):(genN i).length=i+1:=by
 induction i with
 |zero=>rfl
 |succ i ih=>rw[genN,genIn_len,ih]
theorem inTo_len (lead:Nat) (g sh:List Nat) (i:Nat):(inTo lead g sh i).length=sh.length:=by
 induction i with
 |zero=>rfl
 |succ i ih=>simp[inTo,ih]
theorem getD_setJ {xs:List Nat} {i n v:Nat}:(xs.set i v).getD n 0=if i=n∧n<xs.length then v else xs.getD n 0:=by
 simp only[List.getD_eq_getElem?_getD,List.getElem?_set]
 by_cases h:i=n
 ·subst h
  by_cases h2:i<xs.length
  ·simp[h2]
  ·simp[h2]
 ·simp[h]
theorem genIn_get (g:List Nat) (root:Nat):∀j,j≤g.length→∀i,(genIn g root j).getD i 0=if 1≤i∧i≤j then(g++[0]).getD i 0 ^^^ timesN (g.getD (i-1) 0) root else(g++[0]).getD i 0
 |0,_,i=>by rw[genIn,if_neg (by omega)]
 |j+1,hj,i=>by
  have ih:=genIn_get g root j (by omega)
  rw[genIn,getD_setJ,genIn_len]
  by_cases h:j+1=i∧i<g.length+1
  ·obtain⟨h1,h2⟩:=h
   subst h1
   rw[if_pos ⟨rfl,h2⟩,if_pos (by omega),ih,if_neg (by omega)];rfl
  ·rw[if_neg h,ih]
   by_cases h2:1≤i∧i≤j
   ·rw[if_pos h2,if_pos (by omega)]
   ·rw[if_neg h2]
    by_cases h3:1≤i∧i≤j+1
    ·omega
    ·rw[if_neg h3]
theorem ext_getD {a b:List Nat} (hl:a.length=b.length) (h:∀i,i<a.length→a.getD i 0=b.getD i 0):a=b:=by
 apply List.ext_getElem hl
 intro i h1 h2
 have:=h i h1
 rw[List.getD_eq_getElem?_getD,List.getD_eq_getElem?_getD,List.getElem?_eq_getElem h1,List.getElem?_eq_getElem h2]at this
 simpa using this
theorem timesN_zero (b:Nat):∀b,b<256→timesN 0 b=0:=by decide+kernel
theorem gen_step (g:List Nat) (r:Nat) (hr:r<256):genIn g r g.length=(g++[0]).zipWith (fun a b=>a ^^^ timesN b r) (0::g):=by
 refine ext_getD (by simp[genIn_len]) fun i hi=>?_
 rw[genIn_len]at hi
 rw[genIn_get g r _ (Nat.le_refl _)]
 have e:((g++[0]).zipWith (fun a b=>a ^^^ timesN b r) (0::g)).getD i 0=(g++[0]).getD i 0 ^^^ timesN ((0::g).getD i 0) r:=by
  have h1:i<(g++[0]).length:=by simpa using hi
  have h2:i<(0::g).length:=by simpa using hi
  rw[List.getD_eq_getElem?_getD,List.getElem?_zipWith,List.getD_eq_getElem?_getD,List.getD_eq_getElem?_getD,List.getElem?_eq_getElem h1,List.getElem?_eq_getElem h2]
  rfl
 rw[e]
 rcases i with _|i
 ·rw[if_neg (by omega)]
  simp only[List.getD_cons_zero]
  rw[timesN_zero 0 r hr,Nat.xor_zero]
 ·rw[if_pos (by omega)]
  rfl
theorem rootN_lt (i:Nat):rootN i<256:=by
 induction i with
 |zero=>decide
 |succ i ih=>exact timesN_lt _ ih
theorem gen_fast:∀n i,genFast n (genN i) (rootN i)=genN (i+n)
 |0,i=>rfl
 |n+1,i=>by
  have:=gen_fast n (i+1)
  rw[genFast,←gen_step _ _ (rootN_lt i),show i+(n+1)=i+1+n by omega,←this]
  rfl
set_option maxRecDepth 100000 in
theorem gen_tab:∀t,t<16→genFast (facN t).length [1] 2=1::(facN t).reverse:=by decide+kernel
theorem gen_fac {t:Nat} (ht:t<16):genN (facN t).length=1::(facN t).reverse:=by
 have:=gen_fast (facN t).length 0
 rw[Nat.zero_add]at this
 rw[←this]
 exact gen_tab t ht
end
section
open Go.RowKit
def logF:Nat→Nat→List Nat→List Nat
 |0,_,l=>l
 |n+1,p,l=>logF n (dblN p) (l++[p])
set_option maxRecDepth 100000 in
theorem times_prod:((List.range 256).all fun m=>(List.range 256).all fun p=>timesN m p==prodT m p)=true:=by decide+kernel
theorem times_eq {m p:Nat} (hm:m<256) (hp:p<256):timesN m p=prodT m p:=by
 have h:=times_prod
 rw[List.all_eq_true]at h
 have h1:=h m (by simpa using hm)
 rw[List.all_eq_true]at h1
 simpa using h1 p (by simpa using hp)
theorem inTo_get (lead:Nat) (g sh:List Nat):∀i,i≤sh.length→∀j,(inTo lead g sh i).getD j 0=if j<i then sh.getD j 0 ^^^ timesN lead (g.getD (j+1) 0)else sh.getD j 0
 |0,_,j=>by rw[inTo,if_neg (by omega)]
 |i+1,hi,j=>by
  have ih:=inTo_get lead g sh i (by omega)
  rw[inTo,getD_setJ,inTo_len]
  by_cases h:i=j∧j<sh.length
  ·obtain⟨rfl,h2⟩:=h
   rw[if_pos ⟨rfl,h2⟩,if_pos (by omega),ih,if_neg (by omega)]
  ·rw[if_neg h,ih]
   by_cases h2:j<i
   ·rw[if_pos h2,if_pos (by omega)]
   ·rw[if_neg h2]
    by_cases h3:j<i+1
    ·omega
    ·rw[if_neg h3]
theorem inner_get (m:Nat) (poly:List Nat):∀k cur,k<cur.length→∀j,(inner m poly k cur).getD j 0=if j≤k then(if j=0 then 0 else cur.getD (j-1) 0) ^^^ prodT m (poly.getD j 0)else cur.getD j 0
 |0,cur,hk,j=>by
  rw[inner,getD_setJ]
  rcases j with _|j
  ·rw[if_pos ⟨rfl,hk⟩,if_pos (by omega),if_pos rfl,Nat.zero_xor]
  ·rw[if_neg (by omega),if_neg (by omega)]
 |k+1,cur,hk,j=>by
  rw[inner,inner_get m poly k _ (by simp;omega)]
  by_cases h:j≤k
  ·have h':j≤k+1:=by omega
   rw[if_pos h,if_pos h']
   by_cases hj:j=0
   ·subst hj;simp
   ·have e:(cur.set (k+1) (cur.getD k 0 ^^^ prodT m (poly.getD (k+1) 0))).getD (j-1) 0=cur.getD (j-1) 0:=by rw[getD_setJ,if_neg (by omega)]
    rw[e]
  ·rw[if_neg h,getD_setJ]
   by_cases h2:k+1=j
   ·subst h2
    rw[if_pos ⟨rfl,hk⟩];simp
   ·have h3:¬j≤k+1:=by omega
    rw[if_neg (by omega),if_neg h3]
theorem getD_rev {xs:List Nat} {i:Nat} (h:i<xs.length):xs.reverse.getD i 0=xs.getD (xs.length-1-i) 0:=by
 rw[List.getD_eq_getElem?_getD,List.getElem?_reverse h,←List.getD_eq_getElem?_getD]
theorem step_rev {poly e:List Nat} (hp:∀p∈poly,p<256) (he:Small e) (hl:e.length=poly.length) (hn:0<poly.length) {d:Nat} (hd:d<256):
 restStep (1::poly.reverse) e.reverse d=(eccStep poly e d).reverse:=by
 have hel:(eccStep poly e d).length=e.length:=(eccStep_ok d he).2
 have e0:e.reverse.getD 0 0=e.getD (poly.length-1) 0:=by rw[getD_rev (by omega),hl];rfl
 refine ext_getD (by rw[restStep,inTo_len];simp[hel];omega) fun i hi=>?_
 have hi2:i<poly.length:=by rw[restStep,inTo_len]at hi;simp at hi;omega
 rw[getD_rev (by omega),hel,eccStep,inner_get _ _ _ _ (by omega),if_pos (by omega),restStep,e0,inTo_get _ _ _ _ (by simp;omega),if_pos (by simp;omega)]
 have hps:Small poly:=small_of_mem hp
 have hm:e.getD (poly.length-1) 0 ^^^ d<256:=xor_lt (he _) hd
 have hg:(1::poly.reverse).getD (i+1) 0=poly.getD (e.length-1-i) 0:=by
  rw[List.getD_cons_succ,getD_rev hi2,hl]
 rw[Nat.xor_comm d,times_eq hm (by rw[hg];exact hps _),hg]
 congr 1
 by_cases hlast:i+1=poly.length
 ·rw[if_pos (by omega),List.getD_eq_getElem?_getD,List.getElem?_append_right (by simp;omega)]
  have:i-(e.reverse.drop 1).length=0:=by simp;omega
  rw[this];rfl
 ·rw[if_neg (by omega),List.getD_eq_getElem?_getD,List.getElem?_append_left (by simp;omega),List.getElem?_drop,←List.getD_eq_getElem?_getD,getD_rev (by omega)]
  congr 1;omega
theorem fold_rev {poly:List Nat} (hp:∀p∈poly,p<256) (hn:0<poly.length):∀(data:List Nat) (e:List Nat),(∀d∈data,d<256)→Small e→e.length=poly.length→
 data.foldl (restStep (1::poly.reverse)) e.reverse=(data.foldl (eccStep poly) e).reverse
 |[],_,_,_,_=>rfl
 |d::data,e,hd,he,hl=>by
  rw[List.foldl_cons,List.foldl_cons,step_rev hp he hl hn (hd d (by simp))]
  exact fold_rev hp hn data _ (fun x hx=>hd x (by simp[hx])) (eccStep_ok d he).1 ((eccStep_ok d he).2.trans hl)
theorem check_ecc {t:Nat} (ht:t<16) {data:List Nat} (hd:∀d∈data,d<256):checkN data (facN t).length=eccOut (facN t) data:=by
 obtain⟨_,hp⟩:=fac_nl t ht
 have hn:0<(facN t).length:=by
  have:=(by decide+kernel:∀t,t<16→0<(facN t).length) t ht
  exact this
 rw[checkN,gen_fac ht,eccOut,eccState]
 have:=fold_rev hp hn data (List.replicate (facN t).length 0) hd (small_zs _) (by simp)
 rw[List.reverse_replicate]at this
 exact this
end
section
open Go.RowKit
theorem Own.put {w:World} {base g cap n:Nat} {k:IntKind} {T:TypeId} {xs:List Nat} (h:Own w base k T (.slice (some ⟨g,0,none⟩) n cap) xs) (i v:Nat):
 Own (w.setCell ⟨g,i,none⟩ (.int k (v:Int))) base k T (.slice (some ⟨g,0,none⟩) n cap) (xs.set i v):=by
 obtain⟨h1,h2⟩:=h
 have e:(nl (xs.set i v)).map (Value.int k)=((nl xs).map (Value.int k)).set i (.int k (v:Int)):=by simp[nl,List.map_set]
 refine⟨by simp,.inr ?_⟩
 rcases h2 with h|⟨g1,c1,cur,hv,a2,a3,a4,a5,a6⟩
 ·cases h.1
 ·injection hv with hv1 hv2 hv3
  injection hv1 with hv1
  injection hv1 with hv1
  subst hv1;subst hv3;subst hv2
  refine⟨g,cap,cur.setIfInBounds i (.int k (v:Int)),by simp,a2,?_,by simpa using a4,by simpa using a5,?_⟩
  ·rw[heap_setCell_at a3]
  ·refine⟨by simpa using a6.1,?_⟩
   rw[e,Array.toList_setIfInBounds,List.take_set,List.length_set,a6.2]
theorem Own.frozen {w:World} {base g cap n:Nat} {k:IntKind} {T:TypeId} {xs:List Nat} (h:Own w base k T (.slice (some ⟨g,0,none⟩) n cap) xs) (i:Nat):w.frozen? ⟨g,i,none⟩=false:=by
 obtain⟨cs,h1⟩:=h.tag g rfl
 exact frozen_blk h1 i
theorem small_genIn {g:List Nat} {r:Nat} (hg:Small g):∀j,Small (genIn g r j)
 |0=>small_app hg (small_of_mem (by simp))
 |j+1=>(small_genIn hg j).set (xor_lt (small_genIn hg j _) (timesN_lt _ (hg _)))
theorem small_genN:∀i,Small (genN i)
 |0=>small_of_mem (by simp[genN])
 |i+1=>small_genIn (small_genN i) _
theorem small_inTo {lead:Nat} {g sh:List Nat} (hl:lead<256) (hs:Small sh):∀i,Small (inTo lead g sh i)
 |0=>hs
 |i+1=>(small_inTo hl hs i).set (xor_lt (small_inTo hl hs i _) (timesN_lt _ hl))
def restTo (data:List Nat) (n k:Nat):List Nat:=(data.take k).foldl (restStep (genN n)) (List.replicate n 0)
theorem restStep_len {g rest:List Nat} {d:Nat} (h:0<rest.length):(restStep g rest d).length=rest.length:=by
 rw[restStep,inTo_len];simp;omega
theorem small_drop1 {xs:List Nat} (h:Small xs):Small (xs.drop 1++[0]):=
 small_app (fun i=>by rw[List.getD_eq_getElem?_getD,List.getElem?_drop,←List.getD_eq_getElem?_getD];exact h _) (small_of_mem (by simp))
theorem rest_ok {n:Nat} (hn:0<n) {g:List Nat}:∀(data:List Nat) (r:List Nat),(∀d∈data,d<256)→Small r→r.length=n→Small (data.foldl (restStep g) r)∧(data.foldl (restStep g) r).length=n
 |[],r,_,h,hl=>⟨h,hl⟩
 |d::data,r,hd,h,hl=>by
  rw[List.foldl_cons]
  exact rest_ok hn data _ (fun x hx=>hd x (by simp[hx])) (small_inTo (xor_lt (hd d (by simp)) (h 0)) (small_drop1 h) _) ((restStep_len (by omega)).trans hl)
theorem mem_of_small {xs:List Nat} (h:Small xs):∀d∈xs,d<256:=by
 intro d hd
 obtain⟨i,hi,rfl⟩:=List.getElem_of_mem hd
 have:=h i
 rw[List.getD_eq_getElem?_getD,List.getElem?_eq_getElem hi]at this
 exact this
theorem restTo_ok {data:List Nat} {n:Nat} (k:Nat) (hn:0<n) (hd:Small data):Small (restTo data n k)∧(restTo data n k).length=n:=
 rest_ok hn _ _ (fun d h=>mem_of_small hd d (List.mem_of_mem_take h)) (small_zs n) (by simp)
theorem restTo_succ {data:List Nat} {n k:Nat} (h:k<data.length):restTo data n (k+1)=restStep (genN n) (restTo data n k) (data.getD k 0):=by
 rw[restTo,←take_snoc h,List.foldl_append];rfl
theorem copyTail {ops:Array Oper} {rest:List Oper} {o:Oper} {a:Act} {Q:Exit→Act→World→Prop} {w:World} (hgd:o.guard=none) (d s:Operand)
 (ho:o.op= .call {callee:= .builtin .copy,args:= #[d,s],argTypes:= #[28,28]})
 (g n:Nat) (xs:List Nat) (hl:xs.length=n) (hn:1≤n) (hd:a.eval d= .slice (some ⟨g,0,none⟩) n n) (hs:a.eval s= .slice (some ⟨g,1,none⟩) (n-1) (n-1))
 (hr:Row w g .i64 3 (nl xs))
 (h:∀w',Row w' g .i64 3 (nl (xs.drop 1++xs.drop (n-1)))→(∀B w0,Below B w0 w→B≤g→Below B w0 w')→wpList Tryz.prog ops Q rest (a.put o.dst (goInt ((n-1:Nat):Int))) w'):
 wpList Tryz.prog ops Q (o::rest) a w:=by
 have hlen:((nl xs).map (Value.int .i64)).length=n:=by simp[hl]
 refine(wpList_copy_own hgd d s 28 28 ho 3 Tryz.underlying28 (by kernel_rfl) g 0 n n ⟨g,1,none⟩ (n-1) (n-1) hd hs (irow .i64 (nl xs)) 3 hr (((nl xs).map (Value.int .i64)).drop 1) (by rw[List.length_drop,hlen];exact(Nat.min_eq_left (by omega)).symm) ?_ ?_ ?_ ?_)
 ·intro j v hj
  have hj2:j<n-1:=by have:=(List.getElem?_eq_some_iff.1 hj).1;rw[List.length_drop,hlen]at this;exact this
  have e:(⟨g,1,none⟩:Addr).add j=⟨g,1+j,none⟩:=by simp[Addr.add]
  rw[e,cell_blk hr,←hj,List.getElem?_drop]
  simp[irow]
 ·rw[List.length_drop,hlen];simp[hl]
 ·intro v hv
  obtain⟨y,_,rfl⟩:=List.mem_map.1 (List.mem_of_mem_drop hv)
  rfl
 ·have e1:(((nl xs).map (Value.int .i64)).drop 1).length=n-1:=by rw[List.length_drop,hlen]
  rw[e1]
  refine h _ ?_ (fun B w0 hb hB=>below_setRow hb hB _)
  unfold Row
  rw[setRow_heap w g _ _ 3 _ hr]
  congr 2
  simp[irow,nl,List.map_drop]
def CheckPost (n:Nat) (data:List Nat) (w:World) (e:Ending) (w':World):Prop:=
 ∃b,e= .returned (.slice (some ⟨b,0,none⟩) n n)∧w.heap.size≤b∧Row w' b .i64 3 (nl (checkN data n))∧Below w.heap.size w w'
end
end Go.Proofs.YtcnallabiffemaaGreatDoor
