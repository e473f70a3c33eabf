/- The reference's reader: a segment of triplets. -/
import Derived.Test.YtcnallabiffemaaGreatDoorZx
import Derived.Deep.RegionLaw
import Derived.Deep.AppendLies
import Derived.BigRegion
import Derived.Deep.CutRange
import Derived.Deep.DeepCutAuto
set_option linter.unusedVariables false
set_option linter.unusedSimpArgs false
namespace Go.Proofs.YtcnallabiffemaaGreatDoor
open Go.RowKit
theorem app49S {ops:Array Oper} {o:Oper} {a:Act} {K:Act→World→Prop} {Q:Exit→Act→World→Prop} {E:Prop} {w:World} (hgd:o.guard=none) (s x:Operand)
 (ho:o.op= .call {callee:= .builtin .append,args:= #[s,x],argTypes:= #[49,49]})
 (base:Nat) (v:Value) (xs:List Nat) (hs:a.eval s=v) (hown:Own w base .u8 5 v xs)
 (b m c:Nat) (ys:List Nat) (hx:a.eval x= .slice (some ⟨b,0,none⟩) m c) (hm:m=ys.length) (hm0:0<m) (hys:Bytes w b ys)
 (hlen:xs.length+ys.length≤100000) (hbase:base≤w.heap.size)
 (h:∀g cap w',Own w' base .u8 5 (.slice (some ⟨g,0,none⟩) (xs.length+ys.length) cap) (xs++ys)→w.grownBy w' v.ownBlock→K (a.put o.dst (.slice (some ⟨g,0,none⟩) (xs.length+ys.length) cap)) w'):
 if Region.wanted o (yielded ops a.tmps)=true then Oper.wp Tryz.prog o a w K Q else E:=by
 obtain⟨i,hi,hz,hsz,hb⟩:=info_parts Tryz.inf5
 subst hm
 refine step_append_lies w hgd s x 49 ho base 5 i _ 1 1 Tryz.underlying49 hi hz hsz hb rfl (by omega) v xs.length _ hs hown ⟨b,0,none⟩ ys.length c ((nl ys).map (Value.int .u8)) hx (by simp) ?_ ?_ hm0 (by simp only[maxLen];omega) (by omega) hbase _ rfl ?_
 ·intro j u hj
  have hjl:j<ys.length:=by
   have:=(List.getElem?_eq_some_iff.1 hj).1;simpa using this
  have e:(⟨b,0,none⟩:Addr).add j=⟨b,j,none⟩:=addr_add b j
  rw[e,hys.2 j hjl,←hj,←getD_nl]
  simp[hjl,nl]
 ·intro u hu
  obtain⟨y,_,rfl⟩:=List.mem_map.1 hu
  rfl
 ·intro g cap w' h1 h2 _ _
  refine h g cap w' ?_ h2
  unfold Own
  rw[List.length_append]
  simpa[nl]using h1
section
variable {w0 w:World} {rb lb lcap:Nat} {l:List Nat}
theorem RMem.grown_blk {v:Value} {k:Nat} {out:List Nat} (h:RMem w0 w rb lb lcap l v k out) {o:Obj} {w1:World} (hg:(w.alloc o).drew.grownBy w1 v.ownBlock):w1.heap[rb]? =some (.cells (rdC lb l.length lcap v k) 71):=by
 exact(hg.block rb (by have:=lt_of_blk h.blk;simp[World.drew];omega) (fun e=>h.ne_r rb e.symm rfl)).trans ((h.alloc o).blk)
theorem RMem.app2 {v v':Value} {k:Nat} {out ys:List Nat} (h:RMem w0 w rb lb lcap l v k out) {o:Obj} {w1:World} (hg:(w.alloc o).drew.grownBy w1 v.ownBlock) (ho:Own w1 w0.heap.size .u8 5 v' ys):
 RMem w0 ((w1.setCell ⟨rb,2,none⟩ v').setCell ⟨rb,3,none⟩ (.bool false)) rb lb lcap l v' k ys:=
 (((h.alloc o).drewN 1).app hg ho).setBad
theorem RMem.arr2 {v v':Value} {k:Nat} {out:List Nat} (h:RMem w0 w rb lb lcap l v k out) {o:Obj} {w1:World} (hg:(w.alloc o).drew.grownBy w1 v.ownBlock) {nb:Nat} {cs:Array Value} (hn:nb≠rb) (ha:w.heap[nb]? =some (.cells cs 3)):
 ((w1.setCell ⟨rb,2,none⟩ v').setCell ⟨rb,3,none⟩ (.bool false)).heap[nb]? =some (.cells cs 3):=by
 have hl:=lt_of_blk ha
 rw[Below.heap_setCell _ _ _ _ hn,Below.heap_setCell _ _ _ _ hn,hg.block nb (by simp[World.drew];omega) (fun e=>?_)]
 ·exact(Below.heap_alloc _ _ _ hl).trans ha
 ·obtain⟨cs2,h1⟩:=h.own.tag nb e.symm
  rw[ha]at h1
  injection h1 with h1;injection h1 with _ h1
  exact absurd h1 (by decide)
structure Tri (m:Nat) (st:Nat→Nat×List Nat) (xs:List Nat):Prop where
 n:xs.length=3
 step:∀j,j<3→stepV m (st j) (xs.getD j 0)=some (st (j+1))
theorem Tri.mk' {m a b d:Nat} {p0 p1 p2 p3:Nat×List Nat} (q1:stepV m p0 a=some p1) (q2:stepV m p1 b=some p2) (q3:stepV m p2 d=some p3):∃st,st 0=p0∧st 3=p3∧Tri m st [a,b,d]∧p3.2.length≤p0.2.length+3:=by
 have hl:∀{p p':Nat×List Nat} {x:Nat},stepV m p x=some p'→p'.2.length≤p.2.length+1:=fun {p p' x} h=>by
  unfold stepV at h
  split at h
  ·split at h
   ·cases h;simp
   ·split at h
    ·cases h;simp
    ·cases h
  ·split at h
   ·cases h;simp
   ·cases h
 refine⟨fun j=>[p0,p1,p2,p3].getD j (0,[]),rfl,rfl,⟨rfl,fun j hj=>?_⟩,by have:=hl q1;have:=hl q2;have:=hl q3;omega⟩
 have:j=0∨j=1∨j=2:=by omega
 rcases this with rfl|rfl|rfl
 ·exact q1
 ·exact q2
 ·exact q3
theorem step_len {m x:Nat} {p p':Nat×List Nat} (h:stepV m p x=some p'):p'.2.length≤p.2.length+1:=by
 unfold stepV at h
 split at h
 ·split at h
  ·cases h;simp
  ·split at h
   ·cases h;simp
   ·cases h
 ·split at h
  ·cases h;simp
  ·cases h
theorem Tri.len_le {m:Nat} {st:Nat→Nat×List Nat} {xs:List Nat} (h:Tri m st xs):∀j,j≤3→(st j).2.length≤(st 0).2.length+j
 |0,_=>by omega
 |j+1,hj=>by have:=h.len_le j (by omega);have:=step_len (h.step j (by omega));omega
theorem step_cases {m x:Nat} {s s':Nat×List Nat} (h:stepV m s x=some s'):
 (s.1=0∧x<3∧s'.1=x+1∧s'.2=s.2)∨(s.1=0∧3≤x∧x<40∧s'.1=0∧s'.2=s.2++[basicC m x])∨(s.1=3∧1≤x∧x≤26∧s'.1=0∧s'.2=s.2++[shiftC m x]):=by
 unfold stepV at h
 by_cases h0:s.1=0
 ·rw[if_pos h0]at h
  by_cases h1:x<3
  ·rw[if_pos h1]at h;cases h;exact .inl ⟨h0,h1,rfl,rfl⟩
  ·rw[if_neg h1]at h
   by_cases h2:x<40
   ·rw[if_pos h2]at h;cases h;exact .inr (.inl ⟨h0,by omega,h2,rfl,rfl⟩)
   ·rw[if_neg h2]at h;cases h
 ·rw[if_neg h0]at h
  by_cases h1:s.1=3∧1≤x∧x≤26
  ·rw[if_pos h1]at h;cases h;exact .inr (.inr ⟨h1.1,h1.2.1,h1.2.2,rfl,rfl⟩)
  ·rw[if_neg h1]at h;cases h
def SegPost (w0:World) (rb lb lcap:Nat) (l:List Nat) (k':Nat) (out':List Nat) (e:Ending) (w':World):Prop:=e= .returned (.tuple #[])∧∃v',RMem w0 w' rb lb lcap l v' k' out'
structure InI (w0 wr:World) (rb lb lcap:Nat) (l:List Nat) (k:Nat) (st:Nat→Nat×List Nat) (nb:Nat) (xs:List Nat) (j:Nat):Prop where
 mem:∃v,RMem w0 wr rb lb lcap l v k (st j).2
 arr:∃cs,wr.heap[nb]? =some (.cells cs 3)∧∀j,j<3→cs[j]? =some (.int .i64 ((xs.getD j 0:Nat):Int))
 ne:nb≠rb
 le:j≤3
set_option maxRecDepth 100000 in
set_option maxHeartbeats 4000000 in
theorem trip_calls {v:Value} {m k k':Nat} {out out':List Nat} (hm:m=1∨m=2) (h:RMem w0 w rb lb lcap l v k out) (hR:RT l m 0 k out k' out') (hl:l.length≤5000) (hk:k≤l.length) (ho:out.length≤3*k):
 Calls Tryz.prog 38 #[.pointer (some ⟨rb,0,none⟩),.int .i64 m] w (SegPost w0 rb lb lcap l k' out'):=by
 have H:=Lib.hid h
 have HR:=Lib.hid hR
 have HM:=Lib.hid hm
 clear h hR hm
 go_enter Tryz.func38,Tryz.ntmps38
 go_wp2
 go_loopw [4] (fun s wr=>∃s1 v k out,s= .int .i64 (s1:Nat)∧Hid (RMem w0 wr rb lb lcap l v k out)∧Hid (RT l m s1 k out k' out')∧k≤l.length∧out.length≤3*k) (fun _ wr=>l.length-atOf wr rb)
 case atStart=>exact⟨0,v,k,out,rfl,H,HR,hk,ho⟩
 case round=>
  clear H HR hk ho
  obtain⟨s1,v,k,out,rfl,H,HR,hk,ho⟩:=hrel
  have k0:=H.out.c0
  have k1:=H.out.c1
  have hjb:0≤(k:Int)∧(k:Int)≤5000:=by omega
  have HA:=Lib.hid H.out.at
  rcases HR.out with⟨hlt,h254⟩|hge|⟨heq,hne⟩|⟨hlt,ha,hb,hd,e0,e1,q1,q2,q3,hrest⟩
  ·have hli:(k:Int)<(l.length:Int):=by omega
   go_wp2
   go_quiet (fail)
   have HQ:=Lib.hid (H.out.drewN nq)
   clear k0 k1 H
   generalize wr.drewN nq=wq at*
   have k0:=HQ.out.c0
   have k1:=HQ.out.c1
   have hx:=HQ.out.ints.2 k hlt
   rw[h254]at hx
   clear h254 HR
   go_wp2
   go_quiet (fail)
   have HS:=Lib.hid ((HQ.out.drewN nq).setAtI (k+1) (x:=(k:Int)+1) (by omega))
   have f1:=frozen_blk HQ.out.blk 1
   go_wp2
   go_end0
   exact⟨rfl,v,HS.out⟩
  ·have hli:¬(k':Int)<(l.length:Int):=by omega
   clear HR
   go_wp2
   go_quiet (fail)
   go_wp2
   go_end0
   exact⟨rfl,v,H.out.drewN _⟩
  ·have hli:(k':Int)<(l.length:Int):=by omega
   have hli2:(k':Int)+1=(l.length:Int):=by omega
   obtain⟨z,hz⟩:∃z,z=l.getD k' 0:=⟨_,rfl⟩
   rw[←hz]at hne
   have hne2:((z:Int)==254)=false:=by rw[beq_eq_false_iff_ne];omega
   have HZ:=Lib.hid hz
   clear HR hz hne
   go_wp2
   go_quiet (fail)
   have HQ:=Lib.hid (H.out.drewN nq)
   clear k0 k1 H
   generalize wr.drewN nq=wq at*
   have k0:=HQ.out.c0
   have k1:=HQ.out.c1
   have hx:=HQ.out.ints.2 k' (by omega)
   rw[←HZ.out]at hx
   go_wp2
   go_quiet (fail)
   go_wp2
   go_quiet (fail)
   go_wp2
   go_end0
   exact⟨rfl,v,(HQ.out.drewN _).drewN _⟩
  ·rename_i a b d s1' o1 s2 o2 s3 o3
   have hli:(k:Int)<(l.length:Int):=by omega
   have hli2:(k:Int)+1<(l.length:Int):=by omega
   have hli3:¬(k:Int)+1=(l.length:Int):=by omega
   have hli4:((k:Int)+1==(l.length:Int))=false:=by rw[beq_eq_false_iff_ne];omega
   obtain⟨z0,hz0⟩:∃z,z=l.getD k 0:=⟨_,rfl⟩
   obtain⟨z1,hz1⟩:∃z,z=l.getD (k+1) 0:=⟨_,rfl⟩
   rw[←hz0]at e0
   rw[←hz1]at e1
   have hne2:((z0:Int)==254)=false:=by rw[beq_eq_false_iff_ne];omega
   have hzb:0≤(z0:Int)∧(z0:Int)≤255∧0≤(z1:Int)∧(z1:Int)≤255:=by omega
   have hv0:(256*(z0:Int)+(z1:Int)-1)=((1600*a+40*b+d:Nat):Int):=by omega
   have HV:=Lib.hid hv0
   have hva:((1600*a+40*b+d:Nat):Int)/1600=(a:Int):=by omega
   have hvb:((1600*a+40*b+d:Nat):Int)/40%40=(b:Int):=by omega
   have hvd:((1600*a+40*b+d:Nat):Int)%40=(d:Int):=by omega
   have hvp:0≤((1600*a+40*b+d:Nat):Int)∧((1600*a+40*b+d:Nat):Int)≤64000:=by omega
   have HZ0:=Lib.hid hz0
   have HZ1:=Lib.hid hz1
   obtain⟨st,hs0,hs3,hT,hln⟩:=Tri.mk' q1 q2 q3
   have HT:=Lib.hid hT
   have HLN:=Lib.hid hln
   have HS0:=Lib.hid hs0
   have HS3:=Lib.hid hs3
   have HREST:=Lib.hid hrest
   clear HR hz0 hz1 q1 q2 q3 hrest hv0 e0 e1 hT hln hs0 hs3
   generalize (1600*a+40*b+d:Nat)=V at*
   go_wp2
   go_quiet (fail)
   have HQ:=Lib.hid (H.out.drewN nq)
   clear k0 k1 H
   generalize wr.drewN nq=wq at*
   have k0:=HQ.out.c0
   have k1:=HQ.out.c1
   have hx:=HQ.out.ints.2 k (by omega)
   have hx1:=HQ.out.ints.2 (k+1) (by omega)
   have f1:=frozen_blk HQ.out.blk 1
   rw[←HZ0.out]at hx
   rw[←HZ1.out]at hx1
   go_wp2
   go_quiet (fail)
   go_wp2
   go_quiet (fail)
   go_wp2
   go_quiet (fail)
   go_wp2
   have HN:=Lib.hid HQ.out.blk
   obtain⟨wo,hwo⟩:∃wo:World,wo=wr:=⟨_,rfl⟩
   go_loopw [4,91] (fun s i wr=>∃j sv,s= .int .i64 ((sv:Nat):Int)∧i= .int .i64 ((j:Nat):Int)∧Hid (sv=(st j).1)∧Hid (InI w0 wr rb lb lcap l (k+2) st wq.heap.size [a,b,d] j)) (fun _ i _=>3-(intOf i).toNat)
   case atStart=>
    refine⟨0,s1,rfl,rfl,Lib.hid (by rw[HS0.out]),Lib.hid ⟨⟨v,by rw[HS0.out];exact((HQ.out.drewN _).setAtI (k+2) (by omega)).alloc _⟩,⟨_,new_last (by simp) _,fun j hj=>?_⟩,?_,by omega⟩⟩
    ·have hvn:0≤(256*(z0:Int)+(z1:Int)-1):=by rw[HV.out];omega
     have hjj:j=0∨j=1∨j=2:=by omega
     rcases hjj with rfl|rfl|rfl
     ·rw[Int.tdiv_eq_ediv_of_nonneg hvn,HV.out,hva];rfl
     ·rw[HV.out,Int.tdiv_eq_ediv_of_nonneg hvp.1,Int.tdiv_eq_ediv_of_nonneg hvp.1,Int.tmod_eq_emod_of_nonneg (by omega),hvb];rfl
     ·rw[Int.tmod_eq_emod_of_nonneg hvn,HV.out,hvd];rfl
    ·have:=lt_of_blk HN.out;omega
   case round=>
    clear k0 k1 hx hx1 f1 hva hvb hvd
    obtain⟨j,sv,rfl,rfl,HSV,HI⟩:=hrel
    obtain⟨⟨v2,hmem⟩,⟨cs,harr,hcs⟩,hne,hle⟩:=HI.out
    have HMEM:=Lib.hid hmem
    have HARR:=Lib.hid harr
    have HCS:=Lib.hid hcs
    clear hmem harr hcs HI
    by_cases hj3:j<3
    ·have hji:(j:Int)<3:=by omega
     have hs:=HT.out.step j hj3
     have hcx:wr.cell? ⟨wq.heap.size,j,none⟩=some (.int .i64 (([a,b,d].getD j 0:Nat):Int)):=by rw[cell_blk HARR.out];exact HCS.out j hj3
     generalize [a,b,d].getD j 0=x at*
     have hm1:(m:Int)=1∨(m:Int)=2:=by have:=HM.out;omega
     have hm3:((m:Int)==3)=false:=by rw[beq_eq_false_iff_ne];omega
     have hmn:¬(m:Int)=3:=by omega
     have HX:=Lib.hid hs
     have HNE:=Lib.hid hne
     rcases step_cases hs with⟨c1,c2,c3,c4⟩|⟨c1,c2,c3,c4,c5⟩|⟨c1,c2,c3,c4,c5⟩
     ·obtain rfl:sv=0:=HSV.out.trans c1
      have hx3:(x:Int)<3:=by omega
      have C3:=Lib.hid c3
      have C4:=Lib.hid c4
      clear hs c1 c3 c4 hne
      go_wp2
      exact⟨⟨j+1,x+1,by go_num,by go_num,Lib.hid C3.out.symm,Lib.hid ⟨⟨v2,by rw[C4.out];exact HMEM.out⟩,⟨cs,HARR.out,HCS.out⟩,HNE.out,by omega⟩⟩,by simp[intOf];omega⟩
     ·obtain rfl:sv=0:=HSV.out.trans c1
      have hx3:¬(x:Int)<3:=by omega
      have C5:=Lib.hid c5
      have C4:=Lib.hid c4
      clear hs c1 c4 c5 hne
      go_upto_region 16 with(first|(go_at_call 67;refine(basic67_calls m x HM.out c2 c3 _).mono ?_;rintro e w1 ⟨rfl,rfl⟩))
      have r2:=HMEM.out.c2
      have r3:=HMEM.out.c3
      have a2:=fun o=>(HMEM.out.alloc o).c2
      have a3:=fun o=>(HMEM.out.alloc o).c3
      have hz:=HMEM.out.below.size
      have hol:(st j).2.length+1≤100000:=by have:=HT.out.len_le j (by omega);rw[HS0.out]at this;simp only at this;omega
      go_region_law (refine app49S rfl (.tmp 150) (.tmp 152) rfl w0.heap.size v2 (st j).2 rfl (HMEM.out.own.alloc _) w1.heap.size 1 1 [basicC m x] rfl rfl (by decide) (Bytes.one rfl) (by simp;omega) (by simp;omega) ?_;intro g1 cap1 w2 ho2 hg2;have hb2:=HMEM.out.grown_blk hg2;have q3:w2.cell? ⟨rb,3,none⟩=some (.bool false):=(cell_blk hb2 3).trans rfl;have q2:w2.cell? ⟨rb,2,none⟩=some v2:=(cell_blk hb2 2).trans rfl;have f2:=frozen_blk hb2 2;have f3:=frozen_blk hb2 3;have HO2:=Lib.hid ho2;have HG2:=Lib.hid hg2;clear ho2 hg2 hb2)
      all_goals
       go_wp2
       exact⟨⟨j+1,0,rfl,by go_num,Lib.hid C4.out.symm,Lib.hid ⟨⟨_,by rw[C5.out];exact HMEM.out.app2 HG2.out HO2.out⟩,⟨cs,HMEM.out.arr2 HG2.out HNE.out HARR.out,HCS.out⟩,HNE.out,by omega⟩⟩,by simp[intOf];omega⟩
     ·obtain rfl:sv=3:=HSV.out.trans c1
      have hs0:((3:Nat):Int)=3:=rfl
      have C5:=Lib.hid c5
      have C4:=Lib.hid c4
      clear hs c1 c4 c5 hne
      go_upto_region 11 with(first|(go_at_call 68;refine(shifted68_calls m x HM.out c2 c3 _).mono ?_;rintro e w1 ⟨rfl,rfl⟩))
      have r2:=HMEM.out.c2
      have r3:=HMEM.out.c3
      have a2:=fun o=>(HMEM.out.alloc o).c2
      have a3:=fun o=>(HMEM.out.alloc o).c3
      have hz:=HMEM.out.below.size
      have hol:(st j).2.length+1≤100000:=by have:=HT.out.len_le j (by omega);rw[HS0.out]at this;simp only at this;omega
      go_region_law (refine app49S rfl (.tmp 107) (.tmp 109) rfl w0.heap.size v2 (st j).2 rfl (HMEM.out.own.alloc _) w1.heap.size 1 1 [shiftC m x] rfl rfl (by decide) (Bytes.one rfl) (by simp;omega) (by simp;omega) ?_;intro g1 cap1 w2 ho2 hg2;have hb2:=HMEM.out.grown_blk hg2;have q3:w2.cell? ⟨rb,3,none⟩=some (.bool false):=(cell_blk hb2 3).trans rfl;have q2:w2.cell? ⟨rb,2,none⟩=some v2:=(cell_blk hb2 2).trans rfl;have f2:=frozen_blk hb2 2;have f3:=frozen_blk hb2 3;have HO2:=Lib.hid ho2;have HG2:=Lib.hid hg2;clear ho2 hg2 hb2)
      all_goals
       go_wp2
       exact⟨⟨j+1,0,rfl,by go_num,Lib.hid C4.out.symm,Lib.hid ⟨⟨_,by rw[C5.out];exact HMEM.out.app2 HG2.out HO2.out⟩,⟨cs,HMEM.out.arr2 HG2.out HNE.out HARR.out,HCS.out⟩,HNE.out,by omega⟩⟩,by simp[intOf];omega⟩
    ·obtain rfl:j=3:=by omega
     have hji:¬((3:Nat):Int)<3:=by omega
     go_wp2
     refine⟨⟨sv,v2,k+2,(st 3).2,rfl,HMEM,?_,by omega,?_⟩,?_⟩
     ·rw[HSV.out,HS3.out];exact HREST
     ·have:=HLN.out;rw[HS3.out];simp only at this ⊢;omega
     ·rw[HA.out,HMEM.out.at];omega
end
end Go.Proofs.YtcnallabiffemaaGreatDoor
