/- The walk of the placement: what its steps do to the bits. -/
import Derived.Test.YtcnallabiffemaaGreatDoorZe
set_option linter.unusedVariables false
set_option linter.unusedSimpArgs false
namespace Go.Proofs.YtcnallabiffemaaGreatDoor
section
open Go.RowKit
structure PS where
 occ:Nat
 evs:List (Nat×Int×Int)
def coords (rows cols:Nat) (ev:Nat×Int×Int):List (Int×Int):=
 let r:=ev.2.1
 let c:=ev.2.2
 match ev.1 with
 |0=>[(r-2,c-2),(r-2,c-1),(r-1,c-2),(r-1,c-1),(r-1,c),(r,c-2),(r,c-1),(r,c)]
 |1=>[((rows:Int)-1,0),((rows:Int)-1,1),((rows:Int)-1,2),(0,(cols:Int)-2),(0,(cols:Int)-1),(1,(cols:Int)-1),(2,(cols:Int)-1),(3,(cols:Int)-1)]
 |2=>[((rows:Int)-3,0),((rows:Int)-2,0),((rows:Int)-1,0),(0,(cols:Int)-4),(0,(cols:Int)-3),(0,(cols:Int)-2),(0,(cols:Int)-1),(1,(cols:Int)-1)]
 |3=>[((rows:Int)-3,0),((rows:Int)-2,0),((rows:Int)-1,0),(0,(cols:Int)-2),(0,(cols:Int)-1),(1,(cols:Int)-1),(2,(cols:Int)-1),(3,(cols:Int)-1)]
 |_=>[((rows:Int)-1,0),((rows:Int)-1,(cols:Int)-1),(0,(cols:Int)-3),(0,(cols:Int)-2),(0,(cols:Int)-1),(1,(cols:Int)-3),(1,(cols:Int)-2),(1,(cols:Int)-1)]
def inRB (rows cols:Nat) (p:Int×Int):Bool:=decide (-10≤p.1)&&decide (p.1≤1000)&&decide (-10≤p.2)&&decide (p.2≤1000)&&decide (0≤idxR rows cols p.1 p.2)&&decide (idxR rows cols p.1 p.2<(rows*cols:Nat))
theorem inRB_ok {rows cols:Nat} {p:Int×Int} (h:inRB rows cols p=true):InR rows cols p:=by
 simp only[inRB,Bool.and_eq_true,decide_eq_true_eq]at h
 obtain⟨⟨⟨⟨⟨h1,h2⟩,h3⟩,h4⟩,h5⟩,h6⟩:=h
 exact⟨h1,h2,h3,h4,h5,h6⟩
def put1 (rows cols:Nat) (occ:Nat) (p:Int×Int):Option Nat:=
 if inRB rows cols p&& !occ.testBit (idxR rows cols p.1 p.2).toNat then some (occ ||| 1 <<< (idxR rows cols p.1 p.2).toNat)else none
def putAll (rows cols:Nat):List (Int×Int)→Nat→Option Nat
 |[],occ=>some occ
 |p::ps,occ=>(put1 rows cols occ p).bind (putAll rows cols ps)
def putEv (rows cols:Nat) (ev:Nat×Int×Int) (s:PS):Option PS:=(putAll rows cols (coords rows cols ev) s.occ).map fun o=>⟨o,ev::s.evs⟩
def cornerOf (rows cols:Nat) (row col:Int):Nat:=
 if row=rows∧col=0 then 1 else if row=(rows:Int)-2∧col=0∧¬(cols:Int)%4=0 then 2 else if row=(rows:Int)-2∧col=0∧(cols:Int)%8=4 then 3
 else if row=(rows:Int)+4∧col=2∧(cols:Int)%8=0 then 4 else 0
def cornerG (rows cols:Nat) (row col:Int) (s:PS):Option PS:=if cornerOf rows cols row col=0 then some s else putEv rows cols (cornerOf rows cols row col,0,0) s
def visit (rows cols:Nat) (row col:Int) (s:PS):Option PS:=
 if 0≤row∧row<rows∧0≤col∧col<cols then(if s.occ.testBit (row*cols+col).toNat then some s else putEv rows cols (0,row,col) s)else none
def okRC (row col:Int):Prop:= -100≤row∧row≤1000∧ -100≤col∧col≤1000
instance (row col:Int):Decidable (okRC row col):=by unfold okRC;infer_instance
def upV (rows cols:Nat) (row col:Int) (s:PS):Option PS:=if okRC row col then(if row<rows∧0≤col then visit rows cols row col s else some s)else none
def upG (rows cols:Nat):Nat→Int→Int→PS→Option (Int×Int×PS)
 |0,_,_,_=>none
 |k+1,row,col,s=>(upV rows cols row col s).bind fun s'=>if row-2<0∨(cols:Int)≤col+2 then some (row-2,col+2,s')else upG rows cols k (row-2) (col+2) s'
def downV (rows cols:Nat) (row col:Int) (s:PS):Option PS:=if okRC row col then(if 0≤row∧col<cols then visit rows cols row col s else some s)else none
def downG (rows cols:Nat):Nat→Int→Int→PS→Option (Int×Int×PS)
 |0,_,_,_=>none
 |k+1,row,col,s=>(downV rows cols row col s).bind fun s'=>if (rows:Int)≤row+2∨col-2<0 then some (row+2,col-2,s')else downG rows cols k (row+2) (col-2) s'
def outG (rows cols:Nat):Nat→Int→Int→PS→Option PS
 |0,_,_,_=>none
 |k+1,row,col,s=>if okRC row col then(cornerG rows cols row col s).bind fun s1=>(upG rows cols 200 row col s1).bind fun x=>if okRC x.1 x.2.1 then(downG rows cols 200 (x.1+1) (x.2.1+3) x.2.2).bind fun y=>
   if (rows:Int)≤y.1+3∧(cols:Int)≤y.2.1+1 then some y.2.2 else outG rows cols k (y.1+3) (y.2.1+1) y.2.2 else none else none
def placeG (rows cols:Nat):Option PS:=outG rows cols 100 4 0 ⟨0,[]⟩
def sizes:List (Nat×Nat×Nat):=[(8,8,8),(10,10,12),(12,12,18),(14,14,24),(16,16,32),(18,18,40),(20,20,50),(22,22,60),(24,24,72),(28,28,98),(32,32,128),(36,36,162),(40,40,200),(44,44,242),(48,48,288),
 (56,56,392),(64,64,512),(72,72,648),(80,80,800),(88,88,968),(96,96,1152),(108,108,1458),(120,120,1800),(6,16,12),(6,28,21),(10,24,30),(10,32,40),(14,32,56),(14,44,77)]
def countG (r c:Nat):Nat:=match placeG r c with|some s=>s.evs.length|none=>0
theorem pg_8_8:countG 8 8=8:=by kernel_rfl
theorem pg_10_10:countG 10 10=12:=by kernel_rfl
theorem pg_12_12:countG 12 12=18:=by kernel_rfl
theorem pg_14_14:countG 14 14=24:=by kernel_rfl
theorem pg_16_16:countG 16 16=32:=by kernel_rfl
theorem pg_18_18:countG 18 18=40:=by kernel_rfl
theorem pg_20_20:countG 20 20=50:=by kernel_rfl
theorem pg_22_22:countG 22 22=60:=by kernel_rfl
theorem pg_24_24:countG 24 24=72:=by kernel_rfl
theorem pg_28_28:countG 28 28=98:=by kernel_rfl
theorem pg_32_32:countG 32 32=128:=by kernel_rfl
theorem pg_36_36:countG 36 36=162:=by kernel_rfl
theorem pg_40_40:countG 40 40=200:=by kernel_rfl
theorem pg_44_44:countG 44 44=242:=by kernel_rfl
theorem pg_48_48:countG 48 48=288:=by kernel_rfl
theorem pg_56_56:countG 56 56=392:=by kernel_rfl
theorem pg_64_64:countG 64 64=512:=by kernel_rfl
theorem pg_72_72:countG 72 72=648:=by kernel_rfl
theorem pg_80_80:countG 80 80=800:=by kernel_rfl
theorem pg_88_88:countG 88 88=968:=by kernel_rfl
theorem pg_96_96:countG 96 96=1152:=by kernel_rfl
theorem pg_108_108:countG 108 108=1458:=by kernel_rfl
theorem pg_120_120:countG 120 120=1800:=by kernel_rfl
theorem pg_6_16:countG 6 16=12:=by kernel_rfl
theorem pg_6_28:countG 6 28=21:=by kernel_rfl
theorem pg_10_24:countG 10 24=30:=by kernel_rfl
theorem pg_10_32:countG 10 32=40:=by kernel_rfl
theorem pg_14_32:countG 14 32=56:=by kernel_rfl
theorem pg_14_44:countG 14 44=77:=by kernel_rfl
theorem placeG_ok (x:Nat×Nat×Nat) (hx:x∈sizes):∃s,placeG x.1 x.2.1=some s∧s.evs.length=x.2.2:=by
 have h:countG x.1 x.2.1=x.2.2∧x.2.2≠0:=by
  simp only[sizes,List.mem_cons,List.not_mem_nil,or_false]at hx
  rcases hx with rfl|rfl|rfl|rfl|rfl|rfl|rfl|rfl|rfl|rfl|rfl|rfl|rfl|rfl|rfl|rfl|rfl|rfl|rfl|rfl|rfl|rfl|rfl|rfl|rfl|rfl|rfl|rfl|rfl
  ·exact⟨pg_8_8,by decide⟩
  ·exact⟨pg_10_10,by decide⟩
  ·exact⟨pg_12_12,by decide⟩
  ·exact⟨pg_14_14,by decide⟩
  ·exact⟨pg_16_16,by decide⟩
  ·exact⟨pg_18_18,by decide⟩
  ·exact⟨pg_20_20,by decide⟩
  ·exact⟨pg_22_22,by decide⟩
  ·exact⟨pg_24_24,by decide⟩
  ·exact⟨pg_28_28,by decide⟩
  ·exact⟨pg_32_32,by decide⟩
  ·exact⟨pg_36_36,by decide⟩
  ·exact⟨pg_40_40,by decide⟩
  ·exact⟨pg_44_44,by decide⟩
  ·exact⟨pg_48_48,by decide⟩
  ·exact⟨pg_56_56,by decide⟩
  ·exact⟨pg_64_64,by decide⟩
  ·exact⟨pg_72_72,by decide⟩
  ·exact⟨pg_80_80,by decide⟩
  ·exact⟨pg_88_88,by decide⟩
  ·exact⟨pg_96_96,by decide⟩
  ·exact⟨pg_108_108,by decide⟩
  ·exact⟨pg_120_120,by decide⟩
  ·exact⟨pg_6_16,by decide⟩
  ·exact⟨pg_6_28,by decide⟩
  ·exact⟨pg_10_24,by decide⟩
  ·exact⟨pg_10_32,by decide⟩
  ·exact⟨pg_14_32,by decide⟩
  ·exact⟨pg_14_44,by decide⟩
 obtain⟨h,h0⟩:=h
 unfold countG at h
 cases e:placeG x.1 x.2.1 with
 |none=>rw[e]at h;exact absurd h.symm h0
 |some s=>rw[e]at h;exact⟨s,rfl,h⟩
end
section
open Go.RowKit
def setL (rows cols:Nat) (cw:List Nat) (pos:Nat):Nat→List (Int×Int)→List Int→List Int
 |_,[],b=>b
 |k,p::ps,b=>setL rows cols cw pos (k+1) ps (setM rows cols cw pos k b p)
def foldE (rows cols:Nat) (cw:List Nat):List (Nat×Int×Int)→List Int
 |[]=>List.replicate (rows*cols) (-1)
 |ev::evs=>setL rows cols cw evs.length 1 (coords rows cols ev) (foldE rows cols cw evs)
def OccI (bits:List Int) (occ:Nat):Prop:=∀n,n<bits.length→decide (0≤bits.getD n 0)=occ.testBit n
theorem length_setL (rows cols:Nat) (cw:List Nat) (pos:Nat):∀(ps:List (Int×Int)) (k:Nat) (b:List Int),(setL rows cols cw pos k ps b).length=b.length
 |[],_,_=>rfl
 |p::ps,k,b=>by rw[setL,length_setL rows cols cw pos ps];simp[setM]
theorem length_foldE (rows cols:Nat) (cw:List Nat):∀evs,(foldE rows cols cw evs).length=rows*cols
 |[]=>by simp[foldE]
 |ev::evs=>by rw[foldE,length_setL,length_foldE rows cols cw evs]
theorem getD_set {bits:List Int} {i n:Nat} {v:Int} (hn:n<bits.length):(bits.set i v).getD n 0=if i=n then v else bits.getD n 0:=by
 simp only[List.getD_eq_getElem?_getD,List.getElem?_set]
 by_cases e:i=n
 ·subst e;simp[hn]
 ·simp[e]
theorem testBit_put (occ i n:Nat):(occ ||| 1 <<< i).testBit n=(occ.testBit n||decide (i=n)):=by
 rw[Nat.testBit_or,Nat.testBit_shiftLeft]
 by_cases e:i=n
 ·subst e;simp
 ·have:decide (n≥i)=true→Nat.testBit 1 (n-i)=false:=fun h=>by
   have h:i≤n:=by simpa using h
   obtain⟨d,rfl⟩:∃d,n=i+(d+1):=⟨n-i-1,by omega⟩
   rw[show i+(d+1)-i=d+1 by omega]
   simp[Nat.testBit_succ]
  by_cases h:i≤n
  ·simp[h,this (by simpa using h),e]
  ·simp[h,e]
theorem OccI.setM {rows cols:Nat} {cw:List Nat} {pos k occ o':Nat} {bits:List Int} {p:Int×Int} (h:OccI bits occ) (hp:put1 rows cols occ p=some o'):
 InR rows cols p∧OccI (setM rows cols cw pos k bits p) o':=by
 unfold put1 at hp
 split at hp
 ·rename_i hc
  simp only[Bool.and_eq_true]at hc
  obtain rfl:occ ||| 1 <<< (idxR rows cols p.1 p.2).toNat=o':=by simpa using hp
  refine⟨inRB_ok hc.1,fun n hn=>?_⟩
  have hn':n<bits.length:=by simpa[YtcnallabiffemaaGreatDoor.setM]using hn
  rw[YtcnallabiffemaaGreatDoor.setM,getD_set hn',testBit_put]
  by_cases e:(idxR rows cols p.1 p.2).toNat=n
  ·rw[if_pos e];simp only[e,decide_true,Bool.or_true,decide_eq_true_eq]
   unfold b2i;split<;>decide
  ·rw[if_neg e,h n hn'];simp[e]
 ·cases hp
theorem OccI.setL {rows cols:Nat} {cw:List Nat} {pos:Nat}:∀(ps:List (Int×Int)) (k occ o':Nat) (bits:List Int),OccI bits occ→putAll rows cols ps occ=some o'→
 (∀p∈ps,InR rows cols p)∧OccI (setL rows cols cw pos k ps bits) o'
 |[],_,occ,o',bits,h,hp=>⟨(fun _ h=>by cases h),by simp only[putAll,Option.some.injEq]at hp;subst hp;exact h⟩
 |p::ps,k,occ,o',bits,h,hp=>by
  rw[putAll]at hp
  obtain⟨o1,h1,h2⟩:=Option.bind_eq_some_iff.1 hp
  obtain⟨a,b⟩:=h.setM (cw:=cw) (pos:=pos) (k:=k) h1
  obtain⟨c,d⟩:=OccI.setL (cw:=cw) (pos:=pos) ps (k+1) o1 o' _ b h2
  refine⟨fun q hq=>?_,d⟩
  rcases List.mem_cons.1 hq with hq|hq
  ·rw[hq];exact a
  ·exact c q hq
theorem putEv_ok {rows cols:Nat} {cw:List Nat} {ev:Nat×Int×Int} {s s':PS} (hp:putEv rows cols ev s=some s') (h:OccI (foldE rows cols cw s.evs) s.occ):
 s'.evs=ev::s.evs∧(∀p∈coords rows cols ev,InR rows cols p)∧OccI (foldE rows cols cw s'.evs) s'.occ:=by
 unfold putEv at hp
 obtain⟨o,h1,h2⟩:=Option.map_eq_some_iff.1 hp
 subst h2
 obtain⟨a,b⟩:=OccI.setL (cw:=cw) (pos:=s.evs.length) _ 1 _ _ _ h h1
 exact⟨rfl,a,b⟩
theorem putEv_evs {rows cols:Nat} {ev:Nat×Int×Int} {s s':PS} (hp:putEv rows cols ev s=some s'):s'.evs=ev::s.evs:=by
 unfold putEv at hp
 obtain⟨o,h1,h2⟩:=Option.map_eq_some_iff.1 hp
 subst h2;rfl
theorem visit_grow {rows cols:Nat} {row col:Int} {s s':PS} (h:visit rows cols row col s=some s'):s.evs.length≤s'.evs.length:=by
 unfold visit at h
 split at h
 ·split at h
  ·cases h;exact Nat.le_refl _
  ·rw[putEv_evs h];simp
 ·cases h
theorem upV_grow {rows cols:Nat} {row col:Int} {s s':PS} (h:upV rows cols row col s=some s'):s.evs.length≤s'.evs.length:=by
 unfold upV at h
 split at h
 ·split at h
  ·exact visit_grow h
  ·cases h;exact Nat.le_refl _
 ·cases h
theorem downV_grow {rows cols:Nat} {row col:Int} {s s':PS} (h:downV rows cols row col s=some s'):s.evs.length≤s'.evs.length:=by
 unfold downV at h
 split at h
 ·split at h
  ·exact visit_grow h
  ·cases h;exact Nat.le_refl _
 ·cases h
theorem upG_grow {rows cols:Nat}:∀(k:Nat) (row col:Int) (s:PS) (x:Int×Int×PS),upG rows cols k row col s=some x→s.evs.length≤x.2.2.evs.length
 |0,_,_,_,_,h=>by cases h
 |k+1,row,col,s,x,h=>by
  rw[upG]at h
  obtain⟨s1,h1,h2⟩:=Option.bind_eq_some_iff.1 h
  have:=upV_grow h1
  split at h2
  ·cases h2;exact this
  ·exact Nat.le_trans this (upG_grow k _ _ _ _ h2)
theorem downG_grow {rows cols:Nat}:∀(k:Nat) (row col:Int) (s:PS) (x:Int×Int×PS),downG rows cols k row col s=some x→s.evs.length≤x.2.2.evs.length
 |0,_,_,_,_,h=>by cases h
 |k+1,row,col,s,x,h=>by
  rw[downG]at h
  obtain⟨s1,h1,h2⟩:=Option.bind_eq_some_iff.1 h
  have:=downV_grow h1
  split at h2
  ·cases h2;exact this
  ·exact Nat.le_trans this (downG_grow k _ _ _ _ h2)
theorem cornerG_grow {rows cols:Nat} {row col:Int} {s s':PS} (h:cornerG rows cols row col s=some s'):s.evs.length≤s'.evs.length:=by
 unfold cornerG at h
 split at h
 ·cases h;exact Nat.le_refl _
 ·rw[putEv_evs h];simp
theorem outG_step {rows cols k:Nat} {row col:Int} {s f:PS} (h:outG rows cols (k+1) row col s=some f):
 okRC row col∧∃s1 x y,cornerG rows cols row col s=some s1∧upG rows cols 200 row col s1=some x∧okRC x.1 x.2.1∧downG rows cols 200 (x.1+1) (x.2.1+3) x.2.2=some y∧
  (((rows:Int)≤y.1+3∧(cols:Int)≤y.2.1+1∧y.2.2=f)∨(¬((rows:Int)≤y.1+3∧(cols:Int)≤y.2.1+1)∧outG rows cols k (y.1+3) (y.2.1+1) y.2.2=some f)):=by
 rw[outG]at h
 split at h
 ·rename_i h0
  obtain⟨s1,h1,h⟩:=Option.bind_eq_some_iff.1 h
  obtain⟨x,h2,h⟩:=Option.bind_eq_some_iff.1 h
  split at h
  ·rename_i h3
   obtain⟨y,h4,h⟩:=Option.bind_eq_some_iff.1 h
   split at h
   ·rename_i h5
    exact⟨h0,s1,x,y,h1,h2,h3,h4,.inl ⟨h5.1,h5.2,by simpa using h⟩⟩
   ·rename_i h5
    exact⟨h0,s1,x,y,h1,h2,h3,h4,.inr ⟨h5,h⟩⟩
  ·cases h
 ·cases h
theorem outG_grow {rows cols:Nat}:∀(k:Nat) (row col:Int) (s f:PS),outG rows cols k row col s=some f→s.evs.length≤f.evs.length
 |0,_,_,_,_,h=>by cases h
 |k+1,row,col,s,f,h=>by
  obtain⟨_,s1,x,y,h1,h2,_,h4,h5⟩:=outG_step h
  have a:=cornerG_grow h1
  have b:=upG_grow _ _ _ _ _ h2
  have c:=downG_grow _ _ _ _ _ h4
  rcases h5 with⟨_,_,rfl⟩|⟨_,h5⟩
  ·omega
  ·have:=outG_grow k _ _ _ _ h5;omega
theorem OccI.init (rows cols:Nat) (cw:List Nat):OccI (foldE rows cols cw []) 0:=by
 intro n hn
 have:n<rows*cols:=by simpa[foldE]using hn
 simp[foldE,List.getElem?_replicate,this]
end
end Go.Proofs.YtcnallabiffemaaGreatDoor
