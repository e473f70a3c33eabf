/- The lookahead. -/
import Derived.Test.YtcnallabiffemaaGreatDoorZs4
set_option linter.unusedVariables false
set_option linter.unusedSimpArgs false
namespace Go.Proofs.YtcnallabiffemaaGreatDoor
section
open Go.RowKit
set_option maxRecDepth 100000 in
set_option maxHeartbeats 16000000 in
theorem end_thm {w0 w:World} {fb mb mcap p n:Nat} {msg:List Nat} {f:F6} {m:Mo} {Q:Exit→Act→World→Prop} {T:Nat→Value} {c2 c6:Value} (HM:LkMem w0 w fb mb f.list msg) (h1:1≤n) (HR:Rel m n f) (hl:msg.length≤1000) (hpn:p+n=msg.length)
 (hret:∀T' w',Below w0.heap.size w0 w'→Q .ret (fr (.slice (some ⟨mb,0,none⟩) msg.length mcap) (.int .i64 p) c2 (.int .i64 (lkMode f.fin)) (.slice (some ⟨fb,0,none⟩) 6 6) (.int .i64 n) T') w'):Code.wp Tryz.prog lkBody Q (fr (.slice (some ⟨mb,0,none⟩) msg.length mcap) (.int .i64 p) c2 c6 (.slice (some ⟨fb,0,none⟩) 6 6) (.int .i64 n) T) w:=by
 have HX:=Lib.hid hret
 obtain⟨F,i,j,-,-,-,-,-,-,-,-,-,-,kab,kcx,kce,k0,kb5,kx5,ke5,kt5,kt0,kc0⟩:=HR.ints (by omega)
 have kce:=kce h1
 have hint:=Lib.hid (HR.hasInt (by omega))
 have hK5:Hid (∀i,i<6→ceilI (f.list.getD i 0)≤5000):=by
  intro i hi
  have i6:i=0∨i=1∨i=2∨i=3∨i=4∨i=5:=by omega
  rcases i6 with rfl|rfl|rfl|rfl|rfl|rfl
  ·show ceilI f.a≤5000;omega
  ·show ceilI f.c≤5000;omega
  ·show ceilI f.t≤5000;omega
  ·show ceilI f.x≤5000;omega
  ·show ceilI f.e≤5000;omega
  ·show ceilI f.b≤5000;omega
 have DEC:Hid (f.fin=if ceilI f.a≤ceilI f.c∧ceilI f.a≤ceilI f.t then 1 else if ceilI f.t<ceilI f.c then 2 else 4):=rfl
 have HK:Hid (ceilI f.a=ceilI (f.list.getD 0 0)∧ceilI f.c=ceilI (f.list.getD 1 0)∧ceilI f.t=ceilI (f.list.getD 2 0)∧ceilI f.x=ceilI (f.list.getD 3 0)∧ceilI f.e=ceilI (f.list.getD 4 0)∧ceilI f.b=ceilI (f.list.getD 5 0)):=⟨rfl,rfl,rfl,rfl,rfl,rfl⟩
 generalize ceilI f.a=ka at*
 generalize ceilI f.c=kc at*
 generalize ceilI f.t=kt at*
 generalize ceilI f.x=kx at*
 generalize ceilI f.e=ke at*
 generalize ceilI f.b=kb at*
 have HW:=Lib.hid HM
 have hpe:((p:Int)+(n:Int)==(msg.length:Int))=true:=by simp;omega
 clear hret HR HM F i j
 have m28:=make28 6 (by decide) (by decide)
 have m49:=make49 6 6 (by decide) (by decide) (by decide)
 unfold fr
 conv=>arg 2;whnf
 go_upto_region 13 with fail
 generalize hw2:(w.alloc _).alloc _=w2
 have hsz:(w.alloc (Obj.cells (irow IntKind.u8 (zs 6)) 5)).heap.size=w.heap.size+1:=by simp
 have MM:MinMem w0.heap.size w2 w2 fb (w.heap.size+1) w.heap.size f.list (zs 6) (zs 6):=by
  have h:=HW.out
  have hs1:=h.below.size
  have hb2:=h.b2
  refine⟨Below.refl _ _,?_,?_,?_,by omega,hs1,by omega,by omega,by omega,rfl,by simp,by simp⟩
  ·rw[←hw2];exact(h.flo.alloc _).alloc _
  ·rw[←hw2,←hsz];exact Row.new (w.alloc (Obj.cells (irow IntKind.u8 (zs 6)) 5)) .i64 3 (zs 6)
  ·rw[←hw2];exact(Row.new w .u8 5 (zs 6)).alloc _
 have HB2:Hid (Below w0.heap.size w0 w2):=by
  have h:=HW.out
  rw[←hw2];exact(h.below.alloc h.below.size _).alloc (by have:=h.below.size;rw[hsz];omega) _
 have HY2:Hid (Bytes w2 mb msg):=by rw[←hw2];exact(HW.out.byt.alloc _).alloc _
 have HBB:=Lib.hid (And.intro HW.out.b1 HW.out.n1)
 generalize w.heap.size=ib at*
 clear hw2 hsz m28 m49 HW
 have MM:=Lib.hid MM
 go_upto_region 15 with(first|(go_at_call 179;refine(mins_calls (K:=fun i=>ceilI (f.list.getD i 0)) MM.out hint.out hK5.out).mono ?_;rintro e w3 ⟨mn,ks,l,rfl,hmm,hat⟩;have hl01:=hat.l01;have HMM:=Lib.hid hmm;have HAT:=Lib.hid hat;have HL01:=Lib.hid hl01;clear hmm hat hl01)|(go_at_call 180;refine(minCount_calls HMM.out.mins HMM.out.ll HL01.out).mono ?_;rintro e w4 ⟨rfl,rfl⟩))
 have HM3:Hid (LkMem w0 w4 fb mb f.list msg):=by
  have h:=HMM.out
  have hb:=HB2.out.trans h.below
  exact⟨hb,h.flo,HY2.out.below h.below HBB.out.2,HBB.out.1,HBB.out.2,h.flo.lt⟩
 have lk:=HMM.out.lk
 have ll:=HMM.out.ll
 have i0:=HMM.out.ints.cell (i:=0) (by omega)
 have i1:=HMM.out.ints.cell (i:=1) (by omega)
 have i2:=HMM.out.ints.cell (i:=2) (by omega)
 have i3:=HMM.out.ints.cell (i:=3) (by omega)
 have i4:=HMM.out.ints.cell (i:=4) (by omega)
 have i5:=HMM.out.ints.cell (i:=5) (by omega)
 have z5:=HMM.out.mins.cell (i:=5) (by omega)
 have z1:=HMM.out.mins.cell (i:=1) (by omega)
 have z2:=HMM.out.mins.cell (i:=2) (by omega)
 have z3:=HMM.out.mins.cell (i:=3) (by omega)
 have z4:=HMM.out.mins.cell (i:=4) (by omega)
 obtain⟨d1,-,d3,d4,d5⟩:=HAT.out
 dsimp only at d1 d3 d4 d5
 obtain⟨e0,e1,e2,e3,e4,e5⟩:=HK.out
 rw[d4 0 (by omega),←e0]at i0
 rw[d4 1 (by omega),←e1]at i1
 rw[d4 2 (by omega),←e2]at i2
 rw[d4 3 (by omega),←e3]at i3
 rw[d4 4 (by omega),←e4]at i4
 rw[d4 5 (by omega),←e5]at i5
 have hmn:(mn=ka∨mn=kc∨mn=kt∨mn=kx∨mn=ke∨mn=kb)∧mn≤ka∧mn≤kc∧mn≤kt∧mn≤kx∧mn≤ke∧mn≤kb:=by
  have q0:=d1 0 (by omega);have q1:=d1 1 (by omega);have q2:=d1 2 (by omega);have q3:=d1 3 (by omega);have q4:=d1 4 (by omega);have q5:=d1 5 (by omega)
  simp only[←e0,←e1,←e2,←e3,←e4,←e5]at q0 q1 q2 q3 q4 q5
  refine⟨?_,q0,q1,q2,q3,q4,q5⟩
  obtain⟨j,hj,hjm⟩:=d3 (by omega)
  have j6:j=0∨j=1∨j=2∨j=3∨j=4∨j=5:=by omega
  rcases j6 with rfl|rfl|rfl|rfl|rfl|rfl
  ·left;rw[e0];exact hjm
  ·right;left;rw[e1];exact hjm
  ·right;right;left;rw[e2];exact hjm
  ·right;right;right;left;rw[e3];exact hjm
  ·right;right;right;right;left;rw[e4];exact hjm
  ·right;right;right;right;right;rw[e5];exact hjm
 have L0:l.getD 0 0=if ka=mn then 1 else 0:=by rw[d5,e0];simp only[show (0:Nat)<6 from by decide,true_and]
 have L1:l.getD 1 0=if kc=mn then 1 else 0:=by rw[d5,e1];simp only[show (1:Nat)<6 from by decide,true_and]
 have L2:l.getD 2 0=if kt=mn then 1 else 0:=by rw[d5,e2];simp only[show (2:Nat)<6 from by decide,true_and]
 have L3:l.getD 3 0=if kx=mn then 1 else 0:=by rw[d5,e3];simp only[show (3:Nat)<6 from by decide,true_and]
 have L4:l.getD 4 0=if ke=mn then 1 else 0:=by rw[d5,e4];simp only[show (4:Nat)<6 from by decide,true_and]
 have L5:l.getD 5 0=if kb=mn then 1 else 0:=by rw[d5,e5];simp only[show (5:Nat)<6 from by decide,true_and]
 clear d1 d3 d4 d5 e0 e1 e2 e3 e4 e5
 have hsum:=sum_six l
 generalize sumTo l 6=s at*
 generalize l.getD 0 0=l0 at*
 generalize l.getD 1 0=l1 at*
 generalize l.getD 2 0=l2 at*
 generalize l.getD 3 0=l3 at*
 generalize l.getD 4 0=l4 at*
 generalize l.getD 5 0=l5 at*
 clear HMM HAT HL01 HK hK5 hint MM lk ll
 by_cases cA:ka≤kc∧ka≤kt
 ·have hm:mn=ka:=by omega
  subst hm
  have hd:f.fin=1:=by rw[DEC.out,if_pos cA]
  have HX2:=Lib.hid HX.out
  rw[hd]at HX2
  clear hd DEC HX
  have q1:(mn==mn)=true:=by simp
  clear cA L0 L1 L2 L3 L4 L5 hsum
  go_wp2
  generalize hA:(Act.mk _ _:Act)=A
  obtain⟨T',rfl⟩:=fr_of (a:=A) (c0:= .slice (some ⟨mb,0,none⟩) msg.length mcap) (c1:= .int .i64 p) (c2:=c2) (c6:= .int .i64 (lkMode 1)) (c7:= .slice (some ⟨fb,0,none⟩) 6 6) (c8:= .int .i64 n)
   (by rw[←hA];rfl) (by rw[←hA]) (by rw[←hA];rfl) (by rw[←hA];rfl) (by rw[←hA];rfl) (by rw[←hA];rfl) (by rw[←hA];rfl) (by rw[←hA];rfl)
  exact HX2.out T' _ (by repeat (first|exact HM3.out.below|refine below_dr ?_ _))
 ·by_cases cT:kt<kc
  ·have hm:mn=kt:=by omega
   subst hm
   have hd:f.fin=2:=by rw[DEC.out,if_neg cA,if_pos cT]
   have HX2:=Lib.hid HX.out
   rw[hd]at HX2
   clear hd DEC HX
   rw[if_neg (by omega)]at L0
   rw[if_neg (by omega)]at L1
   rw[if_neg (by omega)]at L3
   rw[if_neg (by omega)]at L4
   rw[if_neg (by omega)]at L5
   rw[if_pos rfl]at L2
   subst L0 L1 L2 L3 L4 L5
   have hs1:s=1:=by omega
   subst hs1
   have q1:(ka==mn)=false:=by simp;omega
   clear cA cT hsum hmn
   go_wp2
   generalize hA:(Act.mk _ _:Act)=A
   obtain⟨T',rfl⟩:=fr_of (a:=A) (c0:= .slice (some ⟨mb,0,none⟩) msg.length mcap) (c1:= .int .i64 p) (c2:=c2) (c6:= .int .i64 (lkMode 2)) (c7:= .slice (some ⟨fb,0,none⟩) 6 6) (c8:= .int .i64 n)
    (by rw[←hA];rfl) (by rw[←hA]) (by rw[←hA];rfl) (by rw[←hA];rfl) (by rw[←hA];rfl) (by rw[←hA];rfl) (by rw[←hA];rfl) (by rw[←hA];rfl)
   exact HX2.out T' _ (by repeat (first|exact HM3.out.below|refine below_dr ?_ _))
  ·have hm:mn=kc:=by omega
   subst hm
   have hd:f.fin=4:=by rw[DEC.out,if_neg cA,if_neg cT]
   have HX2:=Lib.hid HX.out
   rw[hd]at HX2
   clear hd DEC HX
   have q1:(ka==mn)=false:=by simp;omega
   rw[if_neg (by omega)]at L0
   rw[if_neg (by omega)]at L5
   rw[if_pos rfl]at L1
   subst L0 L1 L5
   have b2:0≤l2∧l2≤1:=by rw[L2];split<;>omega
   have b3:0≤l3∧l3≤1:=by rw[L3];split<;>omega
   have b4:0≤l4∧l4≤1:=by rw[L4];split<;>omega
   clear L2 L3 L4 cA cT hmn
   by_cases hs1:s=1
   ·have w2:l2=0:=by omega
    have w3:l3=0:=by omega
    have w4':l4=0:=by omega
    subst hs1 w2 w3 w4'
    clear hsum b2 b3 b4
    go_wp2
    generalize hA:(Act.mk _ _:Act)=A
    obtain⟨T',rfl⟩:=fr_of (a:=A) (c0:= .slice (some ⟨mb,0,none⟩) msg.length mcap) (c1:= .int .i64 p) (c2:=c2) (c6:= .int .i64 (lkMode 4)) (c7:= .slice (some ⟨fb,0,none⟩) 6 6) (c8:= .int .i64 n)
     (by rw[←hA];rfl) (by rw[←hA]) (by rw[←hA];rfl) (by rw[←hA];rfl) (by rw[←hA];rfl) (by rw[←hA];rfl) (by rw[←hA];rfl) (by rw[←hA];rfl)
    exact HX2.out T' _ (by repeat (first|exact HM3.out.below|refine below_dr ?_ _))
   ·have hs2:(s==1)=false:=by simp;omega
    go_wp2
    generalize hA:(Act.mk _ _:Act)=A
    obtain⟨T',rfl⟩:=fr_of (a:=A) (c0:= .slice (some ⟨mb,0,none⟩) msg.length mcap) (c1:= .int .i64 p) (c2:=c2) (c6:= .int .i64 (lkMode 4)) (c7:= .slice (some ⟨fb,0,none⟩) 6 6) (c8:= .int .i64 n)
     (by rw[←hA];rfl) (by rw[←hA]) (by rw[←hA];rfl) (by rw[←hA];rfl) (by rw[←hA];rfl) (by rw[←hA];rfl) (by rw[←hA];rfl) (by rw[←hA];rfl)
    exact HX2.out T' _ (by repeat (first|exact HM3.out.below|refine below_dr ?_ _))
end
section
open Go.RowKit
def lkStart (mode:Nat):F6:=
 if mode=0 then⟨0,wOne,wOne,wOne,wOne,4608308318706860032⟩
 else if mode=1 then⟨wOne,0,wTwo,wTwo,wTwo,4612248968380809216⟩else⟨wOne,wTwo,0,wTwo,wTwo,4612248968380809216⟩
def lkMo (mode:Nat):Mo:=if mode=0 then mA else if mode=1 then mC else mT
theorem Thr_zero:Thr 0 0 0:=⟨0,Or.inl ⟨rfl,rfl⟩,by decide,by decide,by decide⟩
theorem Thr_one:Thr wOne 3 0:=⟨9007199254740992,Or.inr FP_one,by decide,by decide,by decide⟩
theorem Thr_two:Thr wTwo 6 0:=⟨18014398509481984,Or.inr FP_two,by decide,by decide,by decide⟩
theorem Rel_start (mode:Nat):Rel (lkMo mode) 0 (lkStart mode):=by
 unfold lkMo lkStart
 by_cases h0:mode=0
 ·rw[if_pos h0,if_pos h0]
  exact⟨0,3,3,3,4,5,Or.inl ⟨rfl,rfl⟩,by decide,rfl,rfl,rfl,Thr_one,Thr_one,Thr_one,Or.inl ⟨rfl,rfl⟩,Or.inr FP_one,by decide,by decide,Or.inr ⟨by decide,rfl⟩,Or.inr FP_q1,by decide,by decide,by decide,
   Or.inr ⟨by decide,by decide,by decide,by decide⟩,Or.inr ⟨by decide,by decide,by decide,by decide⟩,rfl⟩
 ·rw[if_neg h0,if_neg h0]
  by_cases h1:mode=1
  ·rw[if_pos h1,if_pos h1]
   exact⟨2,6,0,6,8,9,Or.inr FP_one,by decide,rfl,rfl,rfl,Thr_two,Thr_zero,Thr_two,Or.inr (by decide),Or.inr FP_two,by decide,by decide,Or.inr ⟨by decide,rfl⟩,Or.inr FP_q2,by decide,by decide,by decide,
    Or.inr ⟨by decide,by decide,by decide,by decide⟩,Or.inr ⟨by decide,by decide,by decide,by decide⟩,rfl⟩
  ·rw[if_neg h1,if_neg h1]
   exact⟨2,0,6,6,8,9,Or.inr FP_one,by decide,rfl,rfl,rfl,Thr_zero,Thr_two,Thr_two,Or.inl ⟨rfl,rfl⟩,Or.inr FP_two,by decide,by decide,Or.inr ⟨by decide,rfl⟩,Or.inr FP_q2,by decide,by decide,by decide,
    Or.inr ⟨by decide,by decide,by decide,by decide⟩,Or.inr ⟨by decide,by decide,by decide,by decide⟩,rfl⟩
theorem lkStart_0:(lkStart 0).list=[0,wOne,wOne,wOne,wOne,4608308318706860032]:=by kernel_rfl
theorem lkStart_1:(lkStart 1).list=[wOne,wTwo,wTwo,wTwo,wTwo,4612248968380809216].set 1 0:=by kernel_rfl
theorem lkStart_2:(lkStart 2).list=[wOne,wTwo,wTwo,wTwo,wTwo,4612248968380809216].set 2 0:=by kernel_rfl
def lkTest (mode:Nat) (v:List Nat):Nat:=lkMode (lkRun 0 (lkStart mode) v)
theorem lkRun_cons (n:Nat) (f:F6) (cl:Nat) (v:List Nat):lkRun n f (cl::v)=if n+1<4 then lkRun (n+1) (f.step cl) v else if (f.step cl).dec=8 then lkRun (n+1) (f.step cl) v else(f.step cl).dec:=rfl
theorem drop_cls {msg:List Nat} {q:Nat} (h:q<msg.length):(msg.drop q).map clsOf=clsOf (msg.getD q 0)::(msg.drop (q+1)).map clsOf:=by
 rw[List.drop_eq_getElem_cons h,List.map_cons,List.getD_eq_getElem?_getD,List.getElem?_eq_getElem h,Option.getD_some]
def LI (w0:World) (fb mb mcap p mode r0:Nat) (msg:List Nat) (a:Act) (w:World):Prop:=
 ∃n f m T,p+n≤msg.length∧LkMem w0 w fb mb (F6.list f) msg∧Rel m n f∧r0=lkRun n f ((msg.drop (p+n)).map clsOf)∧a=fr (.slice (some ⟨mb,0,none⟩) msg.length mcap) (.int .i64 p) (.int .i64 mode) (.int .i64 0) (.slice (some ⟨fb,0,none⟩) 6 6) (.int .i64 n) T
theorem loop_thm {w0 w:World} {fb mb mcap p mode:Nat} {msg:List Nat} {Q:Exit→Act→World→Prop} {T:Nat→Value} (HM:LkMem w0 w fb mb (lkStart mode).list msg) (hp:p<msg.length) (hl:msg.length≤1000)
 (hs:∀i,i<msg.length→clsOf (msg.getD i 0)<4)
 (hret:∀T' w' c8,Below w0.heap.size w0 w'→Q .ret (fr (.slice (some ⟨mb,0,none⟩) msg.length mcap) (.int .i64 p) (.int .i64 mode) (.int .i64 (lkTest mode ((msg.drop p).map clsOf))) (.slice (some ⟨fb,0,none⟩) 6 6) c8 T') w'):
 Code.wp Tryz.prog (Code.loop (Code.block 1 lkBody)) Q (fr (.slice (some ⟨mb,0,none⟩) msg.length mcap) (.int .i64 p) (.int .i64 mode) (.int .i64 0) (.slice (some ⟨fb,0,none⟩) 6 6) (.int .i64 (0:Nat)) T) w:=by
 have hres:lkTest mode ((msg.drop p).map clsOf)=lkMode (lkRun 0 (lkStart mode) ((msg.drop p).map clsOf)):=rfl
 rw[hres]at hret
 clear hres
 obtain⟨r0,hr0⟩:∃r0,r0=lkRun 0 (lkStart mode) ((msg.drop p).map clsOf):=⟨_,rfl⟩
 rw[←hr0]at hret
 refine wp_loop (LI w0 fb mb mcap p mode r0 msg) (fun a _=>msg.length-(intOf (a.tmps.getD 8 undef)).toNat) ⟨0,lkStart mode,lkMo mode,T,by omega,HM,Rel_start mode,by rw[Nat.add_zero];exact hr0,rfl⟩ ?_
 clear hr0 HM
 rintro a w' ⟨n,f,m,T,hn,HM,HR,hr,rfl⟩
 refine wp_block ?_
 rcases Nat.lt_or_ge (p+n) msg.length with hpn|hpn
 ·rw[drop_cls hpn,lkRun_cons]at hr
  have hc:=hs (p+n) hpn
  have h8:∀(n:Nat) T,(fr (.slice (some ⟨mb,0,none⟩) msg.length mcap) (.int .i64 p) (.int .i64 mode) (.int .i64 0) (.slice (some ⟨fb,0,none⟩) 6 6) (.int .i64 n) T).tmps.getD 8 undef= .int .i64 n:=fun _ _=>rfl
  have key:∀cl,clsOf (msg.getD (p+n) 0)=cl→∀T' w'',LkMem w0 w'' fb mb (f.step cl).list msg→T' 211= .bool (decide ((n:Int)+1≥4))→
   Code.wp Tryz.prog lkCond (Exit.inBlock 1 (Exit.then (fun a' w''=>LI w0 fb mb mcap p mode r0 msg a' w''∧msg.length-(intOf (a'.tmps.getD 8 undef)).toNat<msg.length-(intOf ((fr (.slice (some ⟨mb,0,none⟩) msg.length mcap) (.int .i64 p) (.int .i64 mode) (.int .i64 0) (.slice (some ⟨fb,0,none⟩) 6 6) (.int .i64 n) T).tmps.getD 8 undef)).toNat) Q))
    (fr (.slice (some ⟨mb,0,none⟩) msg.length mcap) (.int .i64 p) (.int .i64 mode) (.int .i64 0) (.slice (some ⟨fb,0,none⟩) 6 6) (.int .i64 ((n:Int)+1)) T') w'':=by
   intro cl hcl T' w'' HM' hT'
   rw[hcl]at hr
   have e:((n:Int)+1)=((n+1:Nat):Int):=by omega
   rw[e]at hT' ⊢
   have HR':=(HR.step (by omega) cl).1
   have back:∀T' w'',(n+1<4∨(f.step cl).dec=8)→LkMem w0 w'' fb mb (f.step cl).list msg→LI w0 fb mb mcap p mode r0 msg (fr (.slice (some ⟨mb,0,none⟩) msg.length mcap) (.int .i64 p) (.int .i64 mode) (.int .i64 0) (.slice (some ⟨fb,0,none⟩) 6 6) (.int .i64 ((n+1:Nat):Int)) T') w''∧
    msg.length-(intOf ((fr (.slice (some ⟨mb,0,none⟩) msg.length mcap) (.int .i64 p) (.int .i64 mode) (.int .i64 0) (.slice (some ⟨fb,0,none⟩) 6 6) (.int .i64 ((n+1:Nat):Int)) T').tmps.getD 8 undef)).toNat<msg.length-(intOf ((fr (.slice (some ⟨mb,0,none⟩) msg.length mcap) (.int .i64 p) (.int .i64 mode) (.int .i64 0) (.slice (some ⟨fb,0,none⟩) 6 6) (.int .i64 n) T).tmps.getD 8 undef)).toNat:=by
    intro T' w'' hb HM''
    refine⟨⟨n+1,f.step cl,m.adv cl,T',by omega,HM'',HR',?_,rfl⟩,?_⟩
    ·rw[show p+(n+1)=p+n+1 by omega,hr]
     by_cases h4:n+1<4
     ·rw[if_pos h4]
     ·rw[if_neg h4,if_pos (hb.resolve_left h4)]
    ·rw[h8,h8]
     simp only[intOf]
     omega
   rcases Nat.lt_or_ge (n+1) 4 with h4|h4
   ·exact dec_lt (m:=m) HM' h4 hT' fun T''=>back T'' w'' (Or.inl h4) HM'
   ·refine dec_ge HM' h4 hT' HR' hl (by omega) hs (fun hd T'' w3 HM3=>back T'' w3 (Or.inr hd) HM3) (fun hd T'' w3 hb=>?_)
    rw[if_neg (by omega),if_neg hd]at hr
    rw[←hr]
    exact hret T'' w3 _ hb
  rcases(show clsOf (msg.getD (p+n) 0)=0∨clsOf (msg.getD (p+n) 0)=1∨clsOf (msg.getD (p+n) 0)=2∨clsOf (msg.getD (p+n) 0)=3 from by omega)with h|h|h|h
  ·exact step_U HM hpn hl h HR (key 0 h)
  ·exact step_L HM hpn hl h HR (key 1 h)
  ·exact step_D HM hpn hl h HR (key 2 h)
  ·exact step_B HM hpn hl h HR (key 3 h)
 ·have hn0:p+n=msg.length:=by omega
  refine end_thm HM (by omega) HR hl hn0 fun T' w'' hb=>?_
  have e:(msg.drop (p+n)).map clsOf=[]:=by rw[List.drop_eq_nil_of_le (by omega)];rfl
  rw[e]at hr
  have e2:f.fin=r0:=hr.symm
  rw[e2]
  exact hret T' w'' _ hb
def LkPost (w0:World) (r:Nat) (e:Ending) (w':World):Prop:=e= .returned (.int .i64 r)∧Below w0.heap.size w0 w'
set_option maxRecDepth 100000 in
set_option maxHeartbeats 16000000 in
theorem look_calls {w:World} {mb mcap p mode:Nat} {msg:List Nat} (hb:Bytes w mb msg) (hp:p<msg.length) (hl:msg.length≤1000) (hs:∀i,i<msg.length→clsOf (msg.getD i 0)<4) (hm:mode≤2):
 Calls Tryz.prog 175 #[.slice (some ⟨mb,0,none⟩) msg.length mcap,.int .i64 p,.int .i64 mode] w (LkPost w (lkTest mode ((msg.drop p).map clsOf))):=by
 have hst:=store_float
 have HB:=Lib.hid hb
 have HS:=Lib.hid hs
 have HL:=Lib.hid hl
 have hpi:¬(p:Int)≥(msg.length:Int):=by omega
 have HP:=Lib.hid hp
 have hn1:=hb.1
 have LT:=fun(w':World) (Q:Exit→Act→World→Prop) (T:Nat→Value) (HM:LkMem w w' w.heap.size mb (lkStart mode).list msg)=>loop_thm (mcap:=mcap) (Q:=Q) (T:=T) HM hp hl hs
 have LTH:=Lib.hid LT
 clear hb hs hl hp LT
 have hmode:mode=0∨mode=1∨mode=2:=by omega
 clear hm
 generalize lkTest mode ((msg.drop p).map clsOf)=res at*
 rcases hmode with rfl|rfl|rfl
 ·go_enter Tryz.func175,Tryz.ntmps175
  go_upto_region 8 with fail
  generalize hwa:w.alloc (Obj.cells _ 213)=wa
  have F0:FRow wa w.heap.size [0,wOne,wOne,wOne,wOne,4608308318706860032]:=by rw[←hwa];exact FRow.new w [0,wOne,wOne,wOne,wOne,4608308318706860032]
  have H2:=Lib.hid (show LkMem w wa w.heap.size mb [0,wOne,wOne,wOne,wOne,4608308318706860032] msg from⟨by rw[←hwa];exact(Below.refl _ _).alloc (Nat.le_refl _) _,F0,by rw[←hwa];exact HB.out.alloc _,Nat.le_refl _,hn1,F0.lt⟩)
  clear F0 hwa
  rw[←lkStart_0]at H2
  go_wp2
  generalize hA:(Act.mk _ _:Act)=A
  obtain⟨T',rfl⟩:=fr_of (a:=A) (c0:=(.slice (some ⟨mb,0,none⟩) msg.length mcap)) (c1:= .int .i64 p) (c2:= .int .i64 (0:Nat)) (c6:= .int .i64 0) (c7:= .slice (some ⟨w.heap.size,0,none⟩) 6 6) (c8:= .int .i64 (0:Nat))
   (by rw[←hA];rfl) (by rw[←hA]) (by rw[←hA];rfl) (by rw[←hA];rfl) (by rw[←hA];rfl) (by rw[←hA];rfl) (by rw[←hA];rfl) (by rw[←hA];rfl)
  clear hA
  refine LTH.out _ _ T' H2.out ?_
  intro T'' w'' c8 hbl
  unfold fr
  go_ret
  exact⟨rfl,hbl⟩
 ·go_enter Tryz.func175,Tryz.ntmps175
  go_upto_region 7 with fail
  generalize hwa:w.alloc (Obj.cells _ 213)=wa
  have F0:FRow wa w.heap.size [wOne,wTwo,wTwo,wTwo,wTwo,4612248968380809216]:=by rw[←hwa];exact FRow.new w [wOne,wTwo,wTwo,wTwo,wTwo,4612248968380809216]
  have f1:=F0.free 1
  have x1:=F0.cell (i:=1) (by decide)
  have H1:=Lib.hid (show LkMem w wa w.heap.size mb [wOne,wTwo,wTwo,wTwo,wTwo,4612248968380809216] msg from⟨by rw[←hwa];exact(Below.refl _ _).alloc (Nat.le_refl _) _,F0,by rw[←hwa];exact HB.out.alloc _,Nat.le_refl _,hn1,F0.lt⟩)
  have H2:=Lib.hid (H1.out.set 1 0)
  rw[←lkStart_1]at H2
  clear F0 H1 hwa
  go_wp2
  generalize hA:(Act.mk _ _:Act)=A
  obtain⟨T',rfl⟩:=fr_of (a:=A) (c0:=(.slice (some ⟨mb,0,none⟩) msg.length mcap)) (c1:= .int .i64 p) (c2:= .int .i64 (1:Nat)) (c6:= .int .i64 0) (c7:= .slice (some ⟨w.heap.size,0,none⟩) 6 6) (c8:= .int .i64 (0:Nat))
   (by rw[←hA];rfl) (by rw[←hA]) (by rw[←hA];rfl) (by rw[←hA];rfl) (by rw[←hA];rfl) (by rw[←hA];rfl) (by rw[←hA];rfl) (by rw[←hA];rfl)
  clear hA
  refine LTH.out _ _ T' H2.out ?_
  intro T'' w'' c8 hbl
  unfold fr
  go_ret
  exact⟨rfl,hbl⟩
 ·go_enter Tryz.func175,Tryz.ntmps175
  go_upto_region 7 with fail
  generalize hwa:w.alloc (Obj.cells _ 213)=wa
  have F0:FRow wa w.heap.size [wOne,wTwo,wTwo,wTwo,wTwo,4612248968380809216]:=by rw[←hwa];exact FRow.new w [wOne,wTwo,wTwo,wTwo,wTwo,4612248968380809216]
  have f1:=F0.free 2
  have x1:=F0.cell (i:=2) (by decide)
  have H1:=Lib.hid (show LkMem w wa w.heap.size mb [wOne,wTwo,wTwo,wTwo,wTwo,4612248968380809216] msg from⟨by rw[←hwa];exact(Below.refl _ _).alloc (Nat.le_refl _) _,F0,by rw[←hwa];exact HB.out.alloc _,Nat.le_refl _,hn1,F0.lt⟩)
  have H2:=Lib.hid (H1.out.set 2 0)
  rw[←lkStart_2]at H2
  clear F0 H1 hwa
  go_wp2
  generalize hA:(Act.mk _ _:Act)=A
  obtain⟨T',rfl⟩:=fr_of (a:=A) (c0:=(.slice (some ⟨mb,0,none⟩) msg.length mcap)) (c1:= .int .i64 p) (c2:= .int .i64 (2:Nat)) (c6:= .int .i64 0) (c7:= .slice (some ⟨w.heap.size,0,none⟩) 6 6) (c8:= .int .i64 (0:Nat))
   (by rw[←hA];rfl) (by rw[←hA]) (by rw[←hA];rfl) (by rw[←hA];rfl) (by rw[←hA];rfl) (by rw[←hA];rfl) (by rw[←hA];rfl) (by rw[←hA];rfl)
  clear hA
  refine LTH.out _ _ T' H2.out ?_
  intro T'' w'' c8 hbl
  unfold fr
  go_ret
  exact⟨rfl,hbl⟩
end
end Go.Proofs.YtcnallabiffemaaGreatDoor
