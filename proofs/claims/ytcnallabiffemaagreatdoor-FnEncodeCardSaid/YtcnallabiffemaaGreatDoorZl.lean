/- The reference's shape and utah. -/
import Derived.Test.YtcnallabiffemaaGreatDoorZe5
import Derived.Test.YtcnallabiffemaaGreatDoorZh1
set_option linter.unusedVariables false
set_option linter.unusedSimpArgs false
namespace Go.Proofs.YtcnallabiffemaaGreatDoor
section
open Go.RowKit
def upS (rows cols:Nat):Nat→Int→Int→PS→Option (Int×Int×PS)
 |0,_,_,_=>none
 |k+1,row,col,s=>if okRC row col then(if 0≤row∧col<cols then(upV rows cols row col s).bind fun s'=>upS rows cols k (row-2) (col+2) s' else some (row,col,s))else none
def downS (rows cols:Nat):Nat→Int→Int→PS→Option (Int×Int×PS)
 |0,_,_,_=>none
 |k+1,row,col,s=>if okRC row col then(if row<rows∧0≤col then(downV rows cols row col s).bind fun s'=>downS rows cols k (row+2) (col-2) s' else some (row,col,s))else none
def outS (rows cols:Nat):Nat→Int→Int→PS→Option PS
 |0,_,_,_=>none
 |k+1,row,col,s=>if okRC row col then(if row<rows∨col<cols then(cornerG rows cols row col s).bind fun s1=>(upS rows cols 200 row col s1).bind fun x=>(downS rows cols 200 (x.1+1) (x.2.1+3) x.2.2).bind fun y=>
   outS rows cols k (y.1+3) (y.2.1+1) y.2.2 else some s)else none
def placeS (rows cols:Nat):Option PS:=outS rows cols 100 4 0 ⟨0,[]⟩
def evB (a b:Nat×Int×Int):Bool:=a.1==b.1&&a.2.1==b.2.1&&a.2.2==b.2.2
def evsB:List (Nat×Int×Int)→List (Nat×Int×Int)→Bool
 |[],[]=>true
 |a::al,b::bl=>evB a b&&evsB al bl
 |_,_=>false
theorem evsB_eq:∀a b,evsB a b=true→a=b
 |[],[],_=>rfl
 |[],_::_,h=>by simp[evsB]at h
 |_::_,[],h=>by simp[evsB]at h
 |⟨a1,a2,a3⟩::al,⟨b1,b2,b3⟩::bl,h=>by
  simp only[evsB,evB,Bool.and_eq_true,beq_iff_eq]at h
  obtain⟨⟨⟨rfl,rfl⟩,rfl⟩,h⟩:=h
  rw[evsB_eq al bl h]
def holes (r c:Nat):Nat:=((0 ||| 1 <<< (r*c-1)) ||| 1 <<< (r*c-2)) ||| 1 <<< (r*c-c-1) ||| 1 <<< (r*c-c-2)
def fullB (r c occ:Nat):Bool:=occ==2^(r*c)-1
def holeB (r c occ:Nat):Bool:=(occ ||| holes r c)==2^(r*c)-1&&(occ &&& holes r c)==0
def chkS (r c:Nat):Bool:=match placeS r c,placeG r c with
 |some a,some b=>evsB a.evs b.evs&&(fullB r c a.occ||holeB r c a.occ)
 |_,_=>false
def setLS (rows cols pos:Nat):Nat→List (Int×Int)→List Int→List Int
 |_,[],b=>b
 |k,p::ps,b=>setLS rows cols pos (k+1) ps (b.set (idxR rows cols p.1 p.2).toNat ((8*pos+k:Nat):Int))
def foldS (rows cols:Nat):List (Nat×Int×Int)→List Int
 |[]=>List.replicate (rows*cols) (-1)
 |ev::evs=>setLS rows cols evs.length 0 (coords rows cols ev) (foldS rows cols evs)
theorem length_setLS (rows cols pos:Nat):∀(ps:List (Int×Int)) (k:Nat) (b:List Int),(setLS rows cols pos k ps b).length=b.length
 |[],_,_=>rfl
 |p::ps,k,b=>by rw[setLS,length_setLS rows cols pos ps];simp
theorem length_foldS (rows cols:Nat):∀evs,(foldS rows cols evs).length=rows*cols
 |[]=>by simp[foldS]
 |ev::evs=>by rw[foldS,length_setLS,length_foldS rows cols evs]
def phi (cw:List Nat) (z:Int):Int:=if z<0 then z else b2i (bitOf (cw.getD (z.toNat/8) 0) (z.toNat%8+1))
theorem setL_map (rows cols:Nat) (cw:List Nat) (pos:Nat):∀(ps:List (Int×Int)) (k:Nat) (b:List Int),k+ps.length≤8→setL rows cols cw pos (k+1) ps (b.map (phi cw))=(setLS rows cols pos k ps b).map (phi cw)
 |[],_,_,_=>rfl
 |p::ps,k,b,h=>by
  simp only[List.length_cons]at h
  rw[setL,setLS,←setL_map rows cols cw pos ps (k+1) _ (by omega)]
  congr 1
  have e:phi cw ((8*pos+k:Nat):Int)=b2i (bitOf (cw.getD pos 0) (k+1)):=by
   unfold phi
   rw[if_neg (by omega),Int.toNat_natCast,show (8*pos+k)/8=pos by omega,show (8*pos+k)%8=k by omega]
  rw[setM,←e,List.map_set]
theorem coords_len (rows cols:Nat) (ev:Nat×Int×Int):(coords rows cols ev).length=8:=by
 unfold coords
 split<;>rfl
theorem fold_map (rows cols:Nat) (cw:List Nat):∀evs,foldE rows cols cw evs=(foldS rows cols evs).map (phi cw)
 |[]=>by simp[foldE,foldS,phi]
 |ev::evs=>by
  rw[foldE,foldS,fold_map rows cols cw evs]
  exact setL_map rows cols cw _ _ 0 _ (by rw[coords_len];omega)
def LowS (N:Nat) (b:List Int):Prop:=∀i,i<b.length→b.getD i 0= -1∨(0≤b.getD i 0∧b.getD i 0<8*(N:Int))
theorem LowS.set {N:Nat} {b:List Int} (h:LowS N b) (n m:Nat) (hm:m<8*N):LowS N (b.set n (m:Int)):=by
 intro i hi
 rw[List.length_set]at hi
 rw[getD_set hi]
 split
 ·right;omega
 ·exact h i hi
theorem LowS.setL {rows cols N pos:Nat} (hp:pos<N):∀(ps:List (Int×Int)) (k:Nat) (b:List Int),k+ps.length≤8→LowS N b→LowS N (setLS rows cols pos k ps b)
 |[],_,_,_,h=>h
 |p::ps,k,b,hk,h=>by
  simp only[List.length_cons]at hk
  rw[setLS]
  exact LowS.setL hp ps (k+1) _ (by omega) (h.set _ _ (by omega))
theorem low_fold (rows cols:Nat) (N:Nat):∀evs:List (Nat×Int×Int),evs.length≤N→LowS N (foldS rows cols evs)
 |[],_=>fun i hi=>by
  have:i<rows*cols:=by simpa[foldS]using hi
  left;simp[foldS,List.getElem?_replicate,this]
 |ev::evs,h=>by
  simp only[List.length_cons]at h
  rw[foldS]
  exact LowS.setL (by omega) _ 0 _ (by rw[coords_len];omega) (low_fold rows cols N evs (by omega))
def finishS (rows cols:Nat) (bits:List Int):List Int:=
 if bits.getD (rows*cols-1) 0<0 then(bits.set (rows*cols-2) (-2)).set (rows*cols-cols-1) (-2)else bits
theorem length_finishS (rows cols:Nat) (b:List Int):(finishS rows cols b).length=b.length:=by
 unfold finishS;split<;>simp
def wantN (cw:List Nat) (z:Int):Nat:=if 0≤z then(cw.getD (z.toNat/8) 0 >>> (7-z.toNat%8)) &&& 1 else if z= -1 then 1 else 0
def pixN (x:Int):Nat:=if x==1 then 1 else 0
theorem want_bit (cw:List Nat) (z:Int) (h:0≤z):pixN (phi cw z)=wantN cw z:=by
 have e0:phi cw z=b2i (bitOf (cw.getD (z.toNat/8) 0) (z.toNat%8+1)):=by unfold phi;rw[if_neg (by omega)]
 have e1:wantN cw z=(cw.getD (z.toNat/8) 0 >>> (7-z.toNat%8)) &&& 1:=by unfold wantN;rw[if_pos h]
 rw[e0,e1]
 unfold bitOf
 rw[show 8-(z.toNat%8+1)=7-z.toNat%8 by omega]
 generalize cw.getD (z.toNat/8) 0=c
 generalize 7-z.toNat%8=k
 have e:c.testBit k=((c >>> k) &&& 1 !=0):=by rw[Nat.testBit,Nat.and_comm]
 have h1:(c >>> k) &&& 1=(c >>> k)%2:=Nat.and_one_is_mod _
 rw[e,h1]
 rcases Nat.mod_two_eq_zero_or_one (c >>> k)with h2|h2<;>simp[h2,b2i,pixN]
theorem place_law {rows cols:Nat} {occ:Nat} {evs:List (Nat×Int×Int)} (cw:List Nat) (r0:6≤rows) (c0:6≤cols) (ho:OccI (foldS rows cols evs) occ) (hf:fullB rows cols occ=true∨holeB rows cols occ=true) {i:Nat} (hi:i<rows*cols):
 pixN ((finishB rows cols (foldE rows cols cw evs)).getD i 0)=wantN cw ((finishS rows cols (foldS rows cols evs)).getD i 0):=by
 have hl:=length_foldS rows cols evs
 have hlow:=low_fold rows cols evs.length evs (Nat.le_refl _)
 have hn:6*cols≤rows*cols:=Nat.mul_le_mul_right _ r0
 rw[fold_map]
 generalize foldS rows cols evs=S at*
 obtain⟨n,hnn⟩:∃n,n=rows*cols:=⟨_,rfl⟩
 have hg:∀i,i<n→(S.map (phi cw)).getD i 0=phi cw (S.getD i 0):=fun i hi=>by
  simp[List.getD_eq_getElem?_getD,List.getElem?_map,List.getElem?_eq_getElem (show i<S.length by omega)]
 have hll:(S.map (phi cw)).length=n:=by simp[hl,hnn]
 have hneg:∀z:Int,z<0→phi cw z=z:=fun z hz=>by unfold phi;rw[if_pos hz]
 have hpos:∀z:Int,0≤z→0≤phi cw z:=fun z hz=>by unfold phi;rw[if_neg (by omega)];unfold b2i;split<;>decide
 unfold finishB finishS
 rw[←hnn]at hi hn ⊢
 rw[hg (n-1) (by omega)]
 rcases hf with hf|hf
 ·have hocc:occ=2^n-1:=by rw[hnn];simpa[fullB]using hf
  have hall:∀i,i<n→0≤S.getD i 0:=fun i hi=>by
   have:=ho i (by omega)
   rw[hocc,Nat.testBit_two_pow_sub_one]at this
   simpa[hi]using this
  rw[if_pos (hpos _ (hall _ (by omega))),if_neg (by have:=hall (n-1) (by omega);omega),hg i hi]
  exact want_bit cw _ (hall i hi)
 ·have hh:(occ ||| holes rows cols)=2^n-1∧(occ &&& holes rows cols)=0:=by rw[hnn];simpa[holeB]using hf
  have hb:∀i,(holes rows cols).testBit i=(decide (n-1=i)||decide (n-2=i)||decide (n-cols-1=i)||decide (n-cols-2=i)):=fun i=>by
   unfold holes
   rw[testBit_put,testBit_put,testBit_put,testBit_put,←hnn];simp
  have hS:∀i,i<n→decide (0≤S.getD i 0)= !(holes rows cols).testBit i:=fun i hi=>by
   rw[ho i (by omega)]
   have h1:=congrArg (fun x=>Nat.testBit x i) hh.1
   have h2:=congrArg (fun x=>Nat.testBit x i) hh.2
   simp only[Nat.testBit_or,Nat.testBit_and,Nat.testBit_two_pow_sub_one,Nat.zero_testBit,hi,decide_true]at h1 h2
   revert h1 h2
   cases occ.testBit i<;>cases (holes rows cols).testBit i<;>simp
  have hm:∀i,i<n→(holes rows cols).testBit i=true→S.getD i 0= -1:=fun i hi ht=>by
   have:=hS i hi
   rw[ht]at this
   have h3:¬0≤S.getD i 0:=by simpa using this
   rcases hlow i (by omega)with h|h
   ·exact h
   ·omega
  have e1:S.getD (n-1) 0= -1:=hm _ (by omega) (by rw[hb];simp)
  rw[e1,hneg (-1) (by omega),if_neg (by omega),if_pos (by omega)]
  rw[getD_set (by simp;omega),getD_set (by omega),getD_set (by simp;omega),getD_set (by omega),hg i hi]
  by_cases q1:n-1=i
  ·rw[if_neg (by omega),if_pos q1,if_neg (by omega),if_neg (by omega),←q1,e1];rfl
  ·by_cases q2:n-2=i
   ·rw[if_neg (by omega),if_neg q1,if_neg (by omega),if_pos q2,hm i hi (by rw[hb];simp[q2]),hneg (-1) (by omega)];rfl
   ·by_cases q3:n-cols-1=i
    ·rw[if_neg (by omega),if_neg q1,if_pos q3,hm i hi (by rw[hb];simp[q3]),hneg (-1) (by omega)];rfl
    ·by_cases q4:n-cols-2=i
     ·rw[if_pos q4,if_neg q3,if_neg q2,hm i hi (by rw[hb];simp[q4])];rfl
     ·rw[if_neg q4,if_neg q1,if_neg q3,if_neg q2]
      have:=hS i hi
      rw[hb]at this
      simp only[q1,q2,q3,q4,decide_false,Bool.or_self,Bool.not_false,decide_eq_true_eq]at this
      exact want_bit cw _ this
end
theorem ps_8_8:chkS 8 8=true:=by kernel_rfl
theorem ps_10_10:chkS 10 10=true:=by kernel_rfl
theorem ps_12_12:chkS 12 12=true:=by kernel_rfl
theorem ps_14_14:chkS 14 14=true:=by kernel_rfl
theorem ps_16_16:chkS 16 16=true:=by kernel_rfl
theorem ps_18_18:chkS 18 18=true:=by kernel_rfl
theorem ps_20_20:chkS 20 20=true:=by kernel_rfl
theorem ps_22_22:chkS 22 22=true:=by kernel_rfl
theorem ps_24_24:chkS 24 24=true:=by kernel_rfl
theorem ps_28_28:chkS 28 28=true:=by kernel_rfl
theorem ps_32_32:chkS 32 32=true:=by kernel_rfl
theorem ps_36_36:chkS 36 36=true:=by kernel_rfl
theorem ps_40_40:chkS 40 40=true:=by kernel_rfl
theorem ps_44_44:chkS 44 44=true:=by kernel_rfl
theorem ps_48_48:chkS 48 48=true:=by kernel_rfl
theorem ps_56_56:chkS 56 56=true:=by kernel_rfl
theorem ps_64_64:chkS 64 64=true:=by kernel_rfl
theorem ps_72_72:chkS 72 72=true:=by kernel_rfl
theorem ps_80_80:chkS 80 80=true:=by kernel_rfl
theorem ps_88_88:chkS 88 88=true:=by kernel_rfl
theorem ps_96_96:chkS 96 96=true:=by kernel_rfl
theorem ps_6_16:chkS 6 16=true:=by kernel_rfl
theorem ps_6_28:chkS 6 28=true:=by kernel_rfl
theorem ps_10_24:chkS 10 24=true:=by kernel_rfl
theorem ps_10_32:chkS 10 32=true:=by kernel_rfl
theorem ps_14_32:chkS 14 32=true:=by kernel_rfl
theorem ps_14_44:chkS 14 44=true:=by kernel_rfl
theorem ps_108_108:chkS 108 108=true:=by kernel_rfl
theorem ps_120_120:chkS 120 120=true:=by kernel_rfl
theorem chkS_ok (x:Nat×Nat×Nat) (hx:x∈sizes):chkS x.1 x.2.1=true:=by
 simp only[sizes,List.mem_cons,List.not_mem_nil,or_false]at hx
 rcases hx with rfl|rfl|rfl|rfl|rfl|rfl|rfl|rfl|rfl|rfl|rfl|rfl|rfl|rfl|rfl|rfl|rfl|rfl|rfl|rfl|rfl|rfl|rfl|rfl|rfl|rfl|rfl|rfl|rfl
 ·exact ps_8_8
 ·exact ps_10_10
 ·exact ps_12_12
 ·exact ps_14_14
 ·exact ps_16_16
 ·exact ps_18_18
 ·exact ps_20_20
 ·exact ps_22_22
 ·exact ps_24_24
 ·exact ps_28_28
 ·exact ps_32_32
 ·exact ps_36_36
 ·exact ps_40_40
 ·exact ps_44_44
 ·exact ps_48_48
 ·exact ps_56_56
 ·exact ps_64_64
 ·exact ps_72_72
 ·exact ps_80_80
 ·exact ps_88_88
 ·exact ps_96_96
 ·exact ps_108_108
 ·exact ps_120_120
 ·exact ps_6_16
 ·exact ps_6_28
 ·exact ps_10_24
 ·exact ps_10_32
 ·exact ps_14_32
 ·exact ps_14_44
section
open Go.RowKit
structure SMem (w0 w:World) (b bb:Nat) (rows cols:Nat) (bits:List Int):Prop where
 blk:w.heap[b]? =some (.cells #[.int .i64 rows,.int .i64 cols,.slice (some ⟨bb,0,none⟩) bits.length bits.length] 84)
 row:Row w bb .i64 3 bits
 below:Below w0.heap.size w0 w
 base:w0.heap.size≤bb
 bas2:w0.heap.size≤b
 n1:b≠bb
 len:bits.length=rows*cols
 r0:6≤rows
 r1:rows≤1000
 c0:6≤cols
 c1:cols≤1000
section
variable {w0 w w':World} {b bb rows cols:Nat} {bits:List Int}
theorem SMem.set (h:SMem w0 w b bb rows cols bits) (i:Nat) (v:Int):SMem w0 (w.setCell ⟨bb,i,none⟩ (.int .i64 v)) b bb rows cols (bits.set i v) where
 blk:=by rw[Below.heap_setCell _ _ _ _ h.n1,List.length_set];exact h.blk
 row:=h.row.set i v
 below:=h.below.setCell h.base _
 base:=h.base
 bas2:=h.bas2
 n1:=h.n1
 len:=by rw[List.length_set];exact h.len
 r0:=h.r0
 r1:=h.r1
 c0:=h.c0
 c1:=h.c1
theorem SMem.drewN (h:SMem w0 w b bb rows cols bits) (n:Nat):SMem w0 (w.drewN n) b bb rows cols bits:=
 ⟨h.blk,h.row,below_dr h.below n,h.base,h.bas2,h.n1,h.len,h.r0,h.r1,h.c0,h.c1⟩
theorem SMem.drew (h:SMem w0 w b bb rows cols bits):SMem w0 w.drew b bb rows cols bits:=h.drewN 1
theorem SMem.lb (h:SMem w0 w b bb rows cols bits):b<w.heap.size:=lt_of_blk h.blk
theorem SMem.lbb (h:SMem w0 w b bb rows cols bits):bb<w.heap.size:=h.row.lt
theorem SMem.alloc (h:SMem w0 w b bb rows cols bits) (o:Obj):SMem w0 (w.alloc o) b bb rows cols bits:=
 ⟨(Below.heap_alloc _ _ _ h.lb).trans h.blk,h.row.alloc o,h.below.alloc h.below.size o,h.base,h.bas2,h.n1,h.len,h.r0,h.r1,h.c0,h.c1⟩
theorem SMem.setO (h:SMem w0 w b bb rows cols bits) {a:Addr} (v:Value) (h1:b≠a.block) (h2:bb≠a.block) (h3:w0.heap.size≤a.block):SMem w0 (w.setCell a v) b bb rows cols bits:=
 ⟨(Below.heap_setCell _ _ _ _ h1).trans h.blk,h.row.set_ne h2 v,h.below.setCell h3 v,h.base,h.bas2,h.n1,h.len,h.r0,h.r1,h.c0,h.c1⟩
theorem SMem.k0 (h:SMem w0 w b bb rows cols bits):w.cell? ⟨b,0,none⟩=some (.int .i64 rows):=by rw[cell_blk h.blk];rfl
theorem SMem.k1 (h:SMem w0 w b bb rows cols bits):w.cell? ⟨b,1,none⟩=some (.int .i64 cols):=by rw[cell_blk h.blk];rfl
theorem SMem.k2 (h:SMem w0 w b bb rows cols bits):w.cell? ⟨b,2,none⟩=some (.slice (some ⟨bb,0,none⟩) bits.length bits.length):=by rw[cell_blk h.blk];rfl
end
def SSet (w0:World) (b bb rows cols:Nat) (bits:List Int) (e:Ending) (w':World):Prop:=e= .returned (.tuple #[])∧SMem w0 w' b bb rows cols bits
theorem free_calls {w0 w:World} {b bb rows cols:Nat} {bits:List Int} (h:SMem w0 w b bb rows cols bits)
 (row col:Int) (n:Nat) (hr0: -2000≤row) (hr1:row≤2000) (hc0: -2000≤col) (hc1:col≤2000) (hn:row*cols+col=(n:Int)) (hlt:n<bits.length):
 Calls Tryz.prog 50 #[.pointer (some ⟨b,0,none⟩),.int .i64 row,.int .i64 col] w fun e w'=>e= .returned (.bool (decide (bits.getD n 0<0)))∧∃m,w'=w.drewN m:=by
 have k2:=h.k1
 have k3:=h.k2
 have cx:=h.row.cell hlt
 have hbl:bits.length≤1000000:=by rw[h.len];exact Nat.mul_le_mul h.r1 h.c1
 have hc:=h.c1
 obtain⟨m1,m2⟩:=mul_small hr0 hr1 (by omega:(0:Int)≤(cols:Int)) (by omega)
 clear h
 generalize bits.getD n 0=x at*
 have i1:IntKind.i64.wrap (row*(cols:Int))=row*(cols:Int):=IntWalk.i64_in _ (by omega)
 have i2:IntKind.i64.wrap (row*(cols:Int)+col)=(n:Int):=by rw[hn];exact IntWalk.i64_in _ (by omega)
 clear hn
 go_enter Tryz.func50,Tryz.ntmps50
 go_wp2
 go_quiet (fail)
 go_wp2
 go_ret
 exact⟨rfl,_,rfl⟩
theorem put_case {rows cols n L:Nat} {row col r c:Int} (r1:rows≤1000) (c1:cols≤1000) (hr0: -10≤row) (hr1:row≤1000) (hn:idxR rows cols row col=(n:Int)) (hlt:n<L) (hbl:L≤1000000) (hw:wrapR rows cols row col=(r,c)):
 -20≤r∧r≤2010∧IntKind.i64.wrap (r*(cols:Int))=r*(cols:Int)∧IntKind.i64.wrap (r*(cols:Int)+c)=(n:Int):=by
 have hq: -20≤r∧r≤2010:=by
  have e:r=(wrapR rows cols row col).1:=by rw[hw]
  rw[e];unfold wrapR wrapC;split<;>split<;>simp only<;>omega
 obtain⟨m1,m2⟩: -3000000≤r*(cols:Int)∧r*(cols:Int)≤3000000:=by
  constructor
  ·have:=Int.mul_le_mul_of_nonneg_right hq.1 (by omega:(0:Int)≤(cols:Int));omega
  ·have:=Int.mul_le_mul_of_nonneg_right hq.2 (by omega:(0:Int)≤(cols:Int));omega
 exact⟨hq.1,hq.2,IntWalk.i64_in _ (by omega),by rw[idx_of hn hw];exact IntWalk.i64_in _ (by omega)⟩
set_option maxHeartbeats 2000000 in
theorem putS_calls {w0 w:World} {b bb rows cols:Nat} {bits:List Int} (h:SMem w0 w b bb rows cols bits)
 (row col:Int) (pos k n:Nat) (hr0: -10≤row) (hr1:row≤1000) (hc0: -10≤col) (hc1:col≤1000) (hn:idxR rows cols row col=(n:Int)) (hlt:n<bits.length) (hpos:pos≤4000) (hk:k<8):
 Calls Tryz.prog 100 #[.pointer (some ⟨b,0,none⟩),.int .i64 row,.int .i64 col,.int .i64 pos,.int .i64 k] w (SSet w0 b bb rows cols (bits.set n ((8*pos+k:Nat):Int))):=by
 have k0:=h.k0
 have k1:=h.k1
 have k2:=h.k2
 have cx:=h.row.cell hlt
 have fx:=h.row.free n
 have hbl:bits.length≤1000000:=by rw[h.len];exact Nat.mul_le_mul h.r1 h.c1
 have b1:=h.r1
 have b2:=h.c1
 have i3:((8*pos+k:Nat):Int)=8*(pos:Int)+(k:Int):=by simp
 have hS:=h.set n ((8*pos+k:Nat):Int)
 rw[i3]at hS ⊢
 have HS:=Lib.hid hS
 clear h hS i3
 by_cases hr:row<0
 ·by_cases hc:col+(4-((rows:Int)+4)%8)<0
  ·obtain⟨q1,q2,i1,i2⟩:=put_case b1 b2 hr0 hr1 hn hlt hbl (show wrapR rows cols row col=(row+rows+(4-((cols:Int)+4)%8),col+(4-((rows:Int)+4)%8)+cols) by unfold wrapR;rw[if_pos hr];unfold wrapC;rw[if_pos hc])
   clear hn
   go_enter Tryz.func100,Tryz.ntmps100
   go_wp2
   go_region
   all_goals (go_wp2;go_end0;exact⟨rfl,HS.out.drew⟩)
  ·obtain⟨q1,q2,i1,i2⟩:=put_case b1 b2 hr0 hr1 hn hlt hbl (show wrapR rows cols row col=(row+rows,col+(4-((rows:Int)+4)%8)) by unfold wrapR;rw[if_pos hr];unfold wrapC;rw[if_neg hc])
   clear hn
   go_enter Tryz.func100,Tryz.ntmps100
   go_wp2
   go_region
   all_goals (go_wp2;go_end0;exact⟨rfl,HS.out.drew⟩)
 ·by_cases hc:col<0
  ·obtain⟨q1,q2,i1,i2⟩:=put_case b1 b2 hr0 hr1 hn hlt hbl (show wrapR rows cols row col=(row+(4-((cols:Int)+4)%8),col+cols) by unfold wrapR;rw[if_neg hr];unfold wrapC;rw[if_pos hc])
   clear hn
   go_enter Tryz.func100,Tryz.ntmps100
   go_wp2
   go_region
   all_goals (go_wp2;go_end0;exact⟨rfl,HS.out.drew⟩)
  ·obtain⟨q1,q2,i1,i2⟩:=put_case b1 b2 hr0 hr1 hn hlt hbl (show wrapR rows cols row col=(row,col) by unfold wrapR;rw[if_neg hr];unfold wrapC;rw[if_neg hc])
   clear hn
   go_enter Tryz.func100,Tryz.ntmps100
   go_wp2
   go_region
   all_goals (go_wp2;go_end0;exact⟨rfl,HS.out.drew⟩)
end
section
open Go.RowKit
theorem setLS_snoc (rows cols pos:Nat) (p:Int×Int):∀(ps:List (Int×Int)) (j:Nat) (b:List Int),setLS rows cols pos j (ps++[p]) b=(setLS rows cols pos j ps b).set (idxR rows cols p.1 p.2).toNat ((8*pos+(j+ps.length):Nat):Int)
 |[],j,b=>by simp[setLS]
 |q::ps,j,b=>by
  rw[List.cons_append,setLS,setLS,setLS_snoc rows cols pos p ps (j+1),List.length_cons,show j+1+ps.length=j+(ps.length+1) by omega]
theorem putAt {w0 w:World} {b bb rows cols pos k:Nat} {ps:List (Int×Int)} {bits:List Int} (h:SMem w0 w b bb rows cols (setLS rows cols pos 0 (ps.take k) bits)) (hk:k<ps.length) (h8:ps.length=8) (hi:∀p∈ps,InR rows cols p) (hpos:pos≤4000)
 (row col:Int) (hp:ps.getD k (0,0)=(row,col)):Calls Tryz.prog 100 #[.pointer (some ⟨b,0,none⟩),.int .i64 row,.int .i64 col,.int .i64 pos,.int .i64 k] w (SSet w0 b bb rows cols (setLS rows cols pos 0 (ps.take (k+1)) bits)):=by
 have hm:(row,col)∈ps:=by
  rw[←hp,List.getD_eq_getElem?_getD,List.getElem?_eq_getElem hk];exact List.getElem_mem hk
 have hq:=hi _ hm
 have e:ps.take (k+1)=ps.take k++[(row,col)]:=by
  rw[List.take_add_one,List.getElem?_eq_getElem hk,←hp,List.getD_eq_getElem?_getD,List.getElem?_eq_getElem hk];rfl
 rw[e,setLS_snoc,List.length_take,Nat.min_eq_left (by omega),Nat.zero_add]
 exact putS_calls h row col pos k (idxR rows cols row col).toNat hq.r0 hq.r1 hq.c0 hq.c1 (Int.toNat_of_nonneg hq.i0).symm (by rw[h.len];have:=hq.i1;have:=hq.i0;simp only at *; omega) hpos (by omega)
set_option maxRecDepth 100000 in
set_option maxHeartbeats 4000000 in
theorem utahS_calls {w0 w:World} {b bb rows cols:Nat} {bits:List Int} (h:SMem w0 w b bb rows cols bits)
 (row col:Int) (pos:Nat) (hr0: -8≤row) (hr1:row≤1000) (hc0: -8≤col) (hc1:col≤1000) (hi:∀p∈coords rows cols (0,row,col),InR rows cols p) (hpos:pos≤4000):
 Calls Tryz.prog 51 #[.pointer (some ⟨b,0,none⟩),.int .i64 row,.int .i64 col,.int .i64 pos] w (SSet w0 b bb rows cols (setLS rows cols pos 0 (coords rows cols (0,row,col)) bits)):=by
 have H:=Lib.hid h
 have HI:=Lib.hid hi
 clear h hi
 go_enter Tryz.func51,Tryz.ntmps51
 go_wp2
 go_loopw [19] (fun i wr=>∃k:Nat,k≤8∧i= .int .i64 k∧Hid (SMem w0 wr b bb rows cols (setLS rows cols pos 0 ((coords rows cols (0,row,col)).take k) bits))) (fun i _=>8-(intOf i).toNat)
 case atStart=>exact⟨0,by omega,rfl,H.out⟩
 case round=>
  obtain⟨k,hk,rfl,hS⟩:=hrel
  obtain rfl|rfl|rfl|rfl|rfl|rfl|rfl|rfl|rfl:k=0∨k=1∨k=2∨k=3∨k=4∨k=5∨k=6∨k=7∨k=8:=by omega
  ·have ia:∀w,(Instr.index 134 (.agg #[.int .i64 (-2),.int .i64 (-2),.int .i64 (-2),.int .i64 (-1),.int .i64 (-1),.int .i64 (-2),.int .i64 (-1),.int .i64 (-1),.int .i64 (-1),.int .i64 (0),.int .i64 (0),.int .i64 (-2),.int .i64 (0),.int .i64 (-1),.int .i64 (0),.int .i64 (0)]) (.int .i64 ((0:Nat):Int))).run Tryz.prog w= .ok (.agg #[.int .i64 (-2),.int .i64 (-2)]) w:=fun _=>by kernel_rfl
   have ib:∀w,(Instr.index 134 (.agg #[.int .i64 (-2),.int .i64 (-2),.int .i64 (-2),.int .i64 (-1),.int .i64 (-1),.int .i64 (-2),.int .i64 (-1),.int .i64 (-1),.int .i64 (-1),.int .i64 (0),.int .i64 (0),.int .i64 (-2),.int .i64 (0),.int .i64 (-1),.int .i64 (0),.int .i64 (0)]) (.int .i64 (0:Int))).run Tryz.prog w= .ok (.agg #[.int .i64 (-2),.int .i64 (-2)]) w:=fun _=>by kernel_rfl
   go_wp2_with (go_at_call 100;go_loud (refine(putAt (k:=0) (ps:=coords rows cols (0,row,col)) (hS.out.alloc _) (by simp[coords]) rfl HI.out hpos _ _ rfl).mono ?_;rintro e w' ⟨rfl,hp⟩))
   exact⟨⟨1,by omega,rfl,hp⟩,by simp[intOf]⟩
  ·have ia:∀w,(Instr.index 134 (.agg #[.int .i64 (-2),.int .i64 (-2),.int .i64 (-2),.int .i64 (-1),.int .i64 (-1),.int .i64 (-2),.int .i64 (-1),.int .i64 (-1),.int .i64 (-1),.int .i64 (0),.int .i64 (0),.int .i64 (-2),.int .i64 (0),.int .i64 (-1),.int .i64 (0),.int .i64 (0)]) (.int .i64 ((1:Nat):Int))).run Tryz.prog w= .ok (.agg #[.int .i64 (-2),.int .i64 (-1)]) w:=fun _=>by kernel_rfl
   have ib:∀w,(Instr.index 134 (.agg #[.int .i64 (-2),.int .i64 (-2),.int .i64 (-2),.int .i64 (-1),.int .i64 (-1),.int .i64 (-2),.int .i64 (-1),.int .i64 (-1),.int .i64 (-1),.int .i64 (0),.int .i64 (0),.int .i64 (-2),.int .i64 (0),.int .i64 (-1),.int .i64 (0),.int .i64 (0)]) (.int .i64 (1:Int))).run Tryz.prog w= .ok (.agg #[.int .i64 (-2),.int .i64 (-1)]) w:=fun _=>by kernel_rfl
   go_wp2_with (go_at_call 100;go_loud (refine(putAt (k:=1) (ps:=coords rows cols (0,row,col)) (hS.out.alloc _) (by simp[coords]) rfl HI.out hpos _ _ rfl).mono ?_;rintro e w' ⟨rfl,hp⟩))
   exact⟨⟨2,by omega,rfl,hp⟩,by simp[intOf]⟩
  ·have ia:∀w,(Instr.index 134 (.agg #[.int .i64 (-2),.int .i64 (-2),.int .i64 (-2),.int .i64 (-1),.int .i64 (-1),.int .i64 (-2),.int .i64 (-1),.int .i64 (-1),.int .i64 (-1),.int .i64 (0),.int .i64 (0),.int .i64 (-2),.int .i64 (0),.int .i64 (-1),.int .i64 (0),.int .i64 (0)]) (.int .i64 ((2:Nat):Int))).run Tryz.prog w= .ok (.agg #[.int .i64 (-1),.int .i64 (-2)]) w:=fun _=>by kernel_rfl
   have ib:∀w,(Instr.index 134 (.agg #[.int .i64 (-2),.int .i64 (-2),.int .i64 (-2),.int .i64 (-1),.int .i64 (-1),.int .i64 (-2),.int .i64 (-1),.int .i64 (-1),.int .i64 (-1),.int .i64 (0),.int .i64 (0),.int .i64 (-2),.int .i64 (0),.int .i64 (-1),.int .i64 (0),.int .i64 (0)]) (.int .i64 (2:Int))).run Tryz.prog w= .ok (.agg #[.int .i64 (-1),.int .i64 (-2)]) w:=fun _=>by kernel_rfl
   go_wp2_with (go_at_call 100;go_loud (refine(putAt (k:=2) (ps:=coords rows cols (0,row,col)) (hS.out.alloc _) (by simp[coords]) rfl HI.out hpos _ _ rfl).mono ?_;rintro e w' ⟨rfl,hp⟩))
   exact⟨⟨3,by omega,rfl,hp⟩,by simp[intOf]⟩
  ·have ia:∀w,(Instr.index 134 (.agg #[.int .i64 (-2),.int .i64 (-2),.int .i64 (-2),.int .i64 (-1),.int .i64 (-1),.int .i64 (-2),.int .i64 (-1),.int .i64 (-1),.int .i64 (-1),.int .i64 (0),.int .i64 (0),.int .i64 (-2),.int .i64 (0),.int .i64 (-1),.int .i64 (0),.int .i64 (0)]) (.int .i64 ((3:Nat):Int))).run Tryz.prog w= .ok (.agg #[.int .i64 (-1),.int .i64 (-1)]) w:=fun _=>by kernel_rfl
   have ib:∀w,(Instr.index 134 (.agg #[.int .i64 (-2),.int .i64 (-2),.int .i64 (-2),.int .i64 (-1),.int .i64 (-1),.int .i64 (-2),.int .i64 (-1),.int .i64 (-1),.int .i64 (-1),.int .i64 (0),.int .i64 (0),.int .i64 (-2),.int .i64 (0),.int .i64 (-1),.int .i64 (0),.int .i64 (0)]) (.int .i64 (3:Int))).run Tryz.prog w= .ok (.agg #[.int .i64 (-1),.int .i64 (-1)]) w:=fun _=>by kernel_rfl
   go_wp2_with (go_at_call 100;go_loud (refine(putAt (k:=3) (ps:=coords rows cols (0,row,col)) (hS.out.alloc _) (by simp[coords]) rfl HI.out hpos _ _ rfl).mono ?_;rintro e w' ⟨rfl,hp⟩))
   exact⟨⟨4,by omega,rfl,hp⟩,by simp[intOf]⟩
  ·have ia:∀w,(Instr.index 134 (.agg #[.int .i64 (-2),.int .i64 (-2),.int .i64 (-2),.int .i64 (-1),.int .i64 (-1),.int .i64 (-2),.int .i64 (-1),.int .i64 (-1),.int .i64 (-1),.int .i64 (0),.int .i64 (0),.int .i64 (-2),.int .i64 (0),.int .i64 (-1),.int .i64 (0),.int .i64 (0)]) (.int .i64 ((4:Nat):Int))).run Tryz.prog w= .ok (.agg #[.int .i64 (-1),.int .i64 (0)]) w:=fun _=>by kernel_rfl
   have ib:∀w,(Instr.index 134 (.agg #[.int .i64 (-2),.int .i64 (-2),.int .i64 (-2),.int .i64 (-1),.int .i64 (-1),.int .i64 (-2),.int .i64 (-1),.int .i64 (-1),.int .i64 (-1),.int .i64 (0),.int .i64 (0),.int .i64 (-2),.int .i64 (0),.int .i64 (-1),.int .i64 (0),.int .i64 (0)]) (.int .i64 (4:Int))).run Tryz.prog w= .ok (.agg #[.int .i64 (-1),.int .i64 (0)]) w:=fun _=>by kernel_rfl
   go_wp2_with (go_at_call 100;go_loud (refine(putAt (k:=4) (ps:=coords rows cols (0,row,col)) (hS.out.alloc _) (by simp[coords]) rfl HI.out hpos _ _ rfl).mono ?_;rintro e w' ⟨rfl,hp⟩))
   exact⟨⟨5,by omega,rfl,hp⟩,by simp[intOf]⟩
  ·have ia:∀w,(Instr.index 134 (.agg #[.int .i64 (-2),.int .i64 (-2),.int .i64 (-2),.int .i64 (-1),.int .i64 (-1),.int .i64 (-2),.int .i64 (-1),.int .i64 (-1),.int .i64 (-1),.int .i64 (0),.int .i64 (0),.int .i64 (-2),.int .i64 (0),.int .i64 (-1),.int .i64 (0),.int .i64 (0)]) (.int .i64 ((5:Nat):Int))).run Tryz.prog w= .ok (.agg #[.int .i64 (0),.int .i64 (-2)]) w:=fun _=>by kernel_rfl
   have ib:∀w,(Instr.index 134 (.agg #[.int .i64 (-2),.int .i64 (-2),.int .i64 (-2),.int .i64 (-1),.int .i64 (-1),.int .i64 (-2),.int .i64 (-1),.int .i64 (-1),.int .i64 (-1),.int .i64 (0),.int .i64 (0),.int .i64 (-2),.int .i64 (0),.int .i64 (-1),.int .i64 (0),.int .i64 (0)]) (.int .i64 (5:Int))).run Tryz.prog w= .ok (.agg #[.int .i64 (0),.int .i64 (-2)]) w:=fun _=>by kernel_rfl
   go_wp2_with (go_at_call 100;go_loud (refine(putAt (k:=5) (ps:=coords rows cols (0,row,col)) (hS.out.alloc _) (by simp[coords]) rfl HI.out hpos _ _ rfl).mono ?_;rintro e w' ⟨rfl,hp⟩))
   exact⟨⟨6,by omega,rfl,hp⟩,by simp[intOf]⟩
  ·have ia:∀w,(Instr.index 134 (.agg #[.int .i64 (-2),.int .i64 (-2),.int .i64 (-2),.int .i64 (-1),.int .i64 (-1),.int .i64 (-2),.int .i64 (-1),.int .i64 (-1),.int .i64 (-1),.int .i64 (0),.int .i64 (0),.int .i64 (-2),.int .i64 (0),.int .i64 (-1),.int .i64 (0),.int .i64 (0)]) (.int .i64 ((6:Nat):Int))).run Tryz.prog w= .ok (.agg #[.int .i64 (0),.int .i64 (-1)]) w:=fun _=>by kernel_rfl
   have ib:∀w,(Instr.index 134 (.agg #[.int .i64 (-2),.int .i64 (-2),.int .i64 (-2),.int .i64 (-1),.int .i64 (-1),.int .i64 (-2),.int .i64 (-1),.int .i64 (-1),.int .i64 (-1),.int .i64 (0),.int .i64 (0),.int .i64 (-2),.int .i64 (0),.int .i64 (-1),.int .i64 (0),.int .i64 (0)]) (.int .i64 (6:Int))).run Tryz.prog w= .ok (.agg #[.int .i64 (0),.int .i64 (-1)]) w:=fun _=>by kernel_rfl
   go_wp2_with (go_at_call 100;go_loud (refine(putAt (k:=6) (ps:=coords rows cols (0,row,col)) (hS.out.alloc _) (by simp[coords]) rfl HI.out hpos _ _ rfl).mono ?_;rintro e w' ⟨rfl,hp⟩))
   exact⟨⟨7,by omega,rfl,hp⟩,by simp[intOf]⟩
  ·have ia:∀w,(Instr.index 134 (.agg #[.int .i64 (-2),.int .i64 (-2),.int .i64 (-2),.int .i64 (-1),.int .i64 (-1),.int .i64 (-2),.int .i64 (-1),.int .i64 (-1),.int .i64 (-1),.int .i64 (0),.int .i64 (0),.int .i64 (-2),.int .i64 (0),.int .i64 (-1),.int .i64 (0),.int .i64 (0)]) (.int .i64 ((7:Nat):Int))).run Tryz.prog w= .ok (.agg #[.int .i64 (0),.int .i64 (0)]) w:=fun _=>by kernel_rfl
   have ib:∀w,(Instr.index 134 (.agg #[.int .i64 (-2),.int .i64 (-2),.int .i64 (-2),.int .i64 (-1),.int .i64 (-1),.int .i64 (-2),.int .i64 (-1),.int .i64 (-1),.int .i64 (-1),.int .i64 (0),.int .i64 (0),.int .i64 (-2),.int .i64 (0),.int .i64 (-1),.int .i64 (0),.int .i64 (0)]) (.int .i64 (7:Int))).run Tryz.prog w= .ok (.agg #[.int .i64 (0),.int .i64 (0)]) w:=fun _=>by kernel_rfl
   go_wp2_with (go_at_call 100;go_loud (refine(putAt (k:=7) (ps:=coords rows cols (0,row,col)) (hS.out.alloc _) (by simp[coords]) rfl HI.out hpos _ _ rfl).mono ?_;rintro e w' ⟨rfl,hp⟩))
   exact⟨⟨8,by omega,rfl,hp⟩,by simp[intOf]⟩
  ·go_wp2
   go_end0
   exact⟨rfl,hS.out⟩
end
end Go.Proofs.YtcnallabiffemaaGreatDoor
