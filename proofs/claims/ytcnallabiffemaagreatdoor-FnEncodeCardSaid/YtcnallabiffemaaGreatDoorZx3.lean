/- The reference's reader: Read. -/
import Derived.Test.YtcnallabiffemaaGreatDoorZx2
import Derived.Test.YtcnallabiffemaaGreatDoorZt2
import Derived.Laws.BytesArg
import Derived.Deep.RegionWith
set_option linter.unusedVariables false
set_option linter.unusedSimpArgs false
namespace Go.Proofs.YtcnallabiffemaaGreatDoor
open Go.RowKit
theorem RT_bound {l:List Nat} {m s k:Nat} {out:List Nat} {k':Nat} {out':List Nat} (h:RT l m s k out k' out'):k≤l.length→out.length≤3*k→k'≤l.length∧out'.length≤3*k'∧k≤k':=by
 induction h with
 |unl h1 h2=>intro a b;omega
 |end0 h1=>intro a b;omega
 |end1 h1 h2=>intro a b;omega
 |tri h1 _ _ _ _ _ q1 q2 q3 _ ih=>
  intro a b
  have l1:=step_len q1
  have l2:=step_len q2
  have l3:=step_len q3
  simp only at l1 l2 l3
  have:=ih (by omega) (by omega)
  omega
section
variable {w0 w:World} {rb lb lcap k:Nat} {l:List Nat} {v:Value} {out:List Nat}
theorem RMem.app1 {v':Value} {ys:List Nat} (h:RMem w0 w rb lb lcap l v k out) {o:Obj} {w1:World} (hg:(w.alloc o).grownBy w1 v.ownBlock) (ho:Own w1 w0.heap.size .u8 5 v' ys):RMem w0 (w1.setCell ⟨rb,2,none⟩ v') rb lb lcap l v' k ys:=
 (h.alloc o).app hg ho
theorem RMem.grown1 {v:Value} {k:Nat} {out:List Nat} (h:RMem w0 w rb lb lcap l v k out) {o:Obj} {w1:World} (hg:(w.alloc o).grownBy w1 v.ownBlock):w1.heap[rb]? =some (.cells (rdC lb l.length lcap v k) 71):=
 (hg.block rb (by have:=lt_of_blk h.blk;simp;omega) (fun e=>h.ne_r rb e.symm rfl)).trans ((h.alloc o).blk)
theorem RMem.conv (h:RMem w0 w rb lb lcap l v k out) (h1:1≤out.length):(convert 49 9 v).run Tryz.prog w= .ok (.string (strOfNums (nl out))) w:=by
 obtain⟨g,cap,rfl⟩:=h.own.slice (by omega)
 exact run_convert_bytes_arg w 49 5 Tryz.underlying49 Tryz.underlying5 g 0 out.length cap (nl out) (by simp) (fun i hi=>by rw[Nat.zero_add,h.own.cell hi,getD_nl]) 9 Tryz.underlying9
def ReadPost (w:World) (f:List Nat) (e:Ending) (w':World):Prop:=e= .returned (.tuple #[.string (strOfNums (nl f)),.bool true])∧Below w.heap.size w w'
set_option maxRecDepth 100000 in
set_option maxHeartbeats 4000000 in
theorem read_calls {f:List Nat} (hi:Ints w lb l) (hR:RA l 0 [] f) (hl:l.length≤5000) (hf:1≤f.length):
 Calls Tryz.prog 14 #[.slice (some ⟨lb,0,none⟩) l.length lcap] w (ReadPost w f):=by
 have H0:Hid (RMem w (w.alloc (.cells #[.slice (some ⟨lb,0,none⟩) l.length lcap,.int .i64 0,.slice none 0 0,.bool false] 71)) w.heap.size lb lcap l (.slice none 0 0) 0 []):=
  ⟨new_last rfl _,Own.nil _ _ _ _,hi.alloc _,(Below.refl _ _).alloc (Nat.le_refl _) _,Nat.le_refl _,hi.1⟩
 have HR:=Lib.hid hR
 clear hi hR
 obtain⟨rb,hrb⟩:∃rb,rb=w.heap.size:=⟨_,rfl⟩
 rw[←hrb]at H0
 have HRB:=Lib.hid hrb
 clear hrb
 go_enter Tryz.func14,Tryz.ntmps14
 go_wp2
 rw[←HRB.out]
 clear HRB
 generalize w.alloc (.cells #[.slice (some ⟨lb,0,none⟩) l.length lcap,.int .i64 0,.slice none 0 0,.bool false] 71)=w1 at*
 go_loopw [5] (fun c5 wr=>∃v k out,Hid (RMem w wr rb lb lcap l v k out)∧Hid (RA l k out f)∧k≤l.length∧out.length≤3*k) (fun _ wr=>l.length-atOf wr rb)
 case atStart=>exact⟨_,0,[],H0,HR,by omega,by simp⟩
 case round=>
  clear H0 HR
  obtain⟨v,k,out,H,HR,hk,ho⟩:=hrel
  have k0:=H.out.c0
  have k1:=H.out.c1
  have k3:=H.out.c3
  have hjb:0≤(k:Int)∧(k:Int)≤5000:=by omega
  have HA:=Lib.hid H.out.at
  by_cases hlt:k<l.length
  ·have hli:(k:Int)<(l.length:Int):=by omega
   obtain⟨z,hz⟩:∃z,z=l.getD k 0:=⟨_,rfl⟩
   have HZ:=Lib.hid hz
   clear hz
   go_wp2
   go_quiet (fail)
   have HQ:=Lib.hid (H.out.drewN nq)
   clear k0 k1 k3 H
   generalize wr.drewN nq=wq at*
   have k0:=HQ.out.c0
   have k1:=HQ.out.c1
   have hx:=HQ.out.ints.2 k hlt
   rw[←HZ.out]at hx
   go_wp2
   go_quiet (fail)
   have HS:=Lib.hid ((HQ.out.drewN nq).setAtI (k+1) (x:=(k:Int)+1) (by omega))
   have f1:=frozen_blk (HQ.out.drewN nq).blk 1
   have g1:=(HQ.out.drewN nq).c1
   clear k0 k1 hx HQ
   generalize wq.drewN nq=wp at*
   go_upto_region 6 with fail
   clear f1 g1
   generalize wp.setCell ⟨rb,1,none⟩ (.int .i64 ((k:Int)+1))=ws at*
   rcases HR.out with hge|⟨_,z1,z2,hn⟩|⟨_,z1,z2,hn⟩| @⟨_,_,_,k',out',m,_,hm,ht,hn⟩|⟨_,z1,hp⟩
   ·omega
   ·rw[←HZ.out]at z1 z2 hn
    have HN:=Lib.hid hn
    have hz1:(z:Int)≥1:=by omega
    have hz2:(z:Int)≤128:=by omega
    clear HR hn
    have r2:=HS.out.c2
    have hz:=HS.out.below.size
    go_wp2_with (first|(refine app49G rfl (.tmp 54) (.tmp 58) rfl w.heap.size v out rfl (HS.out.own.alloc _) ws.heap.size 1 1 [z-1] rfl rfl (by decide) (Bytes.one (by omega)) (by simp;omega) (by simp;omega) ?_;intro v' w2 ho2 hg2 _;obtain⟨g1,cap1,rfl⟩:=ho2.slice (by simp);have hb2:=HS.out.grown1 hg2;have q2:w2.cell? ⟨rb,2,none⟩=some v:=(cell_blk hb2 2).trans rfl;have f2:=frozen_blk hb2 2;have HM:=Lib.hid (HS.out.app1 hg2 ho2);clear ho2 hg2 hb2))
    have hm2:=HM.out
    simp only[List.length_append,List.length_cons,List.length_nil,Nat.zero_add]at hm2
    have ha2:=hm2.at
    exact⟨⟨_,k+1,_,Lib.hid hm2,HN,by omega,by simp;omega⟩,by rw[HA.out,ha2];omega⟩
   ·rw[←HZ.out]at z1 z2 hn
    have HN:=Lib.hid hn
    have hz1:(z:Int)≥1:=by omega
    have hz2:¬(z:Int)≤128:=by omega
    have hz3:((z:Int)==129)=false:=by rw[beq_eq_false_iff_ne];omega
    have hz4:(z:Int)≥130:=by omega
    have hz5:(z:Int)≤229:=by omega
    clear HR hn
    have r2:=HS.out.c2
    have hz:=HS.out.below.size
    go_wp2_with (first|(refine app49G rfl (.tmp 83) (.tmp 94) rfl w.heap.size v out rfl (HS.out.own.alloc _) ws.heap.size 2 2 [48+(z-130)/10,48+(z-130)%10] rfl rfl (by decide) (Bytes.two (by omega) (by omega)) (by simp;omega) (by simp;omega) ?_;intro v' w2 ho2 hg2 _;obtain⟨g1,cap1,rfl⟩:=ho2.slice (by simp);have hb2:=HS.out.grown1 hg2;have q2:w2.cell? ⟨rb,2,none⟩=some v:=(cell_blk hb2 2).trans rfl;have f2:=frozen_blk hb2 2;have HM:=Lib.hid (HS.out.app1 hg2 ho2);clear ho2 hg2 hb2))
    have hm2:=HM.out
    simp only[List.length_append,List.length_cons,List.length_nil,Nat.zero_add]at hm2
    have ha2:=hm2.at
    exact⟨⟨_,k+1,_,Lib.hid hm2,HN,by omega,by simp;omega⟩,by rw[HA.out,ha2];omega⟩
   ·have HN:=Lib.hid hn
    have HT:=Lib.hid ht
    have hmm:m=1∨m=2:=by omega
    clear HR hn ht
    rw[←HZ.out]at hm
    rcases hm with⟨rfl,rfl⟩|⟨rfl,rfl⟩
    all_goals
     clear HZ
     go_wp2_with (go_at_call 38;refine(trip_calls hmm HS.out HT.out hl (by omega) (by omega)).mono ?_;rintro e w2 ⟨rfl,v2,hm2⟩;have HM:=Lib.hid hm2;clear hm2)
     have hb:=RT_bound HT.out (by omega) (by omega)
     exact⟨⟨v2,k',out',HM,HN,hb.1,hb.2.1⟩,by rw[HA.out,HM.out.at];omega⟩
   ·have hp:=Lib.hid hp
    rw[←HZ.out]at z1
    subst z1
    clear HZ HR
    go_upto_region 9 with fail
    have r2:ws.drew.cell? ⟨rb,2,none⟩=some v:=HS.out.c2
    have hs1:Hid (RMem w ws.drew rb lb lcap l v (k+1) f):=HS.out.drewN 1
    have hcv:=hs1.out.conv hf
    go_region_with (go_at_call 37;refine(padded_calls (w:=ws.drew) hs1.out hl (by omega) (fun j h1 h2=>hp.out j (by omega) h2)).mono ?_;rintro e w2 ⟨rfl,k2,hm2⟩;have HM:=Lib.hid hm2;have hcv2:=hm2.conv hf;have q2:=hm2.c2;clear hm2)
    all_goals
     go_wp2
     go_ret2
     exact⟨rfl,HM.out.below⟩
  ·have hli:decide ((k:Int)<(l.length:Int))=false:=decide_eq_false (by omega)
   have hof:out=f:=by
    cases HR.out with
    |fin=>rfl
    |chr h=>omega
    |pair h=>omega
    |seg m h=>omega
    |pad h=>omega
   subst hof
   go_wp2
   go_quiet (fail)
   have HQ:=Lib.hid (H.out.drewN nq)
   clear k0 k1 k3 H
   generalize wr.drewN nq=wq at*
   have hcv:=fun n=>(HQ.out.drewN n).conv hf
   have r2:=HQ.out.c2
   have r3:=HQ.out.c3
   go_wp2
   go_quiet (fail)
   go_wp2
   go_ret2
   exact⟨rfl,(HQ.out.drewN nq).below⟩
end
end Go.Proofs.YtcnallabiffemaaGreatDoor
