/- The reference's reader in memory; the pads. -/
import Derived.Test.YtcnallabiffemaaGreatDoorZh1
import Derived.Test.YtcnallabiffemaaGreatDoorZv
import Derived.BigQuiet
import Derived.Deep.QuietTactic
import Derived.KernelRfl
import Derived.BigRegion
import Derived.Deep.AppendLies
set_option linter.unusedVariables false
set_option linter.unusedSimpArgs false
namespace Go.Proofs.YtcnallabiffemaaGreatDoor
section
open Go.RowKit
theorem pad66_calls (p:Nat) (h1:1≤p) (h2:p≤100000) (w:World):Calls Tryz.prog 66 #[.int .i64 p] w fun e w'=>e= .returned (.int .i64 (padN p))∧w'=w:=by
 have e:(149*(p:Int))%253=((149*p%253:Nat):Int):=by omega
 obtain⟨r,hr⟩:∃r,r=padN p:=⟨_,rfl⟩
 rw[←hr]
 have hr2:Hid (r=if 149*p%253+130>254 then 149*p%253+130-254 else 149*p%253+130):=Lib.hid hr
 have hz:149*p%253<253:=Nat.mod_lt _ (by decide)
 clear hr
 generalize 149*p%253=z at*
 have hb:0≤(z:Int)∧(z:Int)<253:=by omega
 by_cases hg:z+130>254
 ·have hg1:129+((z:Int)+1)>254:=by omega
  have hr3:(129+((z:Int)+1)-254:Int)=(r:Int):=by have:=hr2.out;rw[if_pos hg]at this;omega
  go_enter Tryz.func66,Tryz.ntmps66
  go_wp2_with (go_at_call 120;go_in)
  go_ret
  exact⟨rfl,rfl⟩
 ·have hg1:¬129+((z:Int)+1)>254:=by omega
  have hr3:(129+((z:Int)+1):Int)=(r:Int):=by have:=hr2.out;rw[if_neg hg]at this;omega
  go_enter Tryz.func66,Tryz.ntmps66
  go_wp2_with (go_at_call 120;go_in)
  go_ret
  exact⟨rfl,rfl⟩
theorem basic67_calls (m x:Nat) (hm:m=1∨m=2) (h1:3≤x) (h2:x<40) (w:World):Calls Tryz.prog 67 #[.int .i64 m,.int .i64 x] w fun e w'=>e= .returned (.tuple #[.int .u8 (basicC m x),.bool true])∧w'=w:=by
 obtain⟨r,hr⟩:∃r,r=basicC m x:=⟨_,rfl⟩
 rw[←hr]
 have HR:Hid (r=if x=3 then 32 else if x<14 then x+44 else if m=2 then x+83 else x+51):=Lib.hid hr
 clear hr
 have g3:¬(x:Int)<3:=by omega
 have g40:(x:Int)<40:=by omega
 by_cases e3:x=3
 ·have hr:=HR.out
  rw[if_pos e3]at hr
  subst hr e3
  rcases hm with rfl|rfl
  all_goals
   go_enter Tryz.func67,Tryz.ntmps67
   go_wp2
   go_ret2
   exact⟨rfl,rfl⟩
 ·have b3:((x:Int)==3)=false:=by simp;omega
  have n3:¬(x:Int)=3:=by omega
  have hr:=HR.out
  rw[if_neg e3]at hr
  by_cases e14:x<14
  ·rw[if_pos e14]at hr
   have g14:(x:Int)<14:=by omega
   have hr3:(48+(x:Int)-4:Int)=(r:Int):=by omega
   have hr4:(r:Int)<256:=by omega
   clear hr HR
   rcases hm with rfl|rfl
   all_goals
    go_enter Tryz.func67,Tryz.ntmps67
    go_wp2
    go_ret2
    exact⟨rfl,rfl⟩
  ·rw[if_neg e14]at hr
   have g14:¬(x:Int)<14:=by omega
   rcases hm with rfl|rfl
   ·have hr3:(65+(x:Int)-14:Int)=(r:Int):=by rw[if_neg (by decide)]at hr;omega
    clear hr HR
    go_enter Tryz.func67,Tryz.ntmps67
    go_wp2
    go_ret2
    exact⟨rfl,rfl⟩
   ·have hr3:(97+(x:Int)-14:Int)=(r:Int):=by rw[if_pos rfl]at hr;omega
    clear hr HR
    go_enter Tryz.func67,Tryz.ntmps67
    go_wp2
    go_ret2
    exact⟨rfl,rfl⟩
theorem shifted68_calls (m x:Nat) (hm:m=1∨m=2) (h1:1≤x) (h2:x≤26) (w:World):Calls Tryz.prog 68 #[.int .i64 m,.int .i64 3,.int .i64 x] w fun e w'=>e= .returned (.tuple #[.int .u8 (shiftC m x),.bool true])∧w'=w:=by
 have g32:(x:Int)<32:=by omega
 have g97:97≤96+(x:Int):=by omega
 have g122:96+(x:Int)≤122:=by omega
 rcases hm with rfl|rfl
 ·have hr3:(96+(x:Int):Int)=(shiftC 1 x:Int):=by unfold shiftC;rw[if_neg (by decide)];omega
  generalize shiftC 1 x=r at*
  have HR:=Lib.hid hr3
  clear hr3
  go_enter Tryz.func68,Tryz.ntmps68
  go_wp2
  go_ret2
  exact⟨by rw[←HR.out];rfl,rfl⟩
 ·have hr3:(96+(x:Int)-32:Int)=(shiftC 2 x:Int):=by unfold shiftC;rw[if_pos rfl];omega
  generalize shiftC 2 x=r at*
  have HR:=Lib.hid hr3
  clear hr3
  go_enter Tryz.func68,Tryz.ntmps68
  go_wp2
  go_ret2
  exact⟨by rw[←HR.out];rfl,rfl⟩
end
section
open Go.RowKit
def rdC (lb n lcap:Nat) (v:Value) (k:Nat):Array Value:= #[.slice (some ⟨lb,0,none⟩) n lcap,.int .i64 k,v,.bool false]
structure RMem (w0 w:World) (rb lb lcap:Nat) (l:List Nat) (v:Value) (k:Nat) (out:List Nat):Prop where
 blk:w.heap[rb]? =some (.cells (rdC lb l.length lcap v k) 71)
 own:Own w w0.heap.size .u8 5 v out
 ints:Ints w lb l
 below:Below w0.heap.size w0 w
 b0:w0.heap.size≤rb
 b1:lb<w0.heap.size
section
variable {w0 w:World} {rb lb lcap k:Nat} {l:List Nat} {v:Value} {out:List Nat}
theorem RMem.c0 (h:RMem w0 w rb lb lcap l v k out):w.cell? ⟨rb,0,none⟩=some (.slice (some ⟨lb,0,none⟩) l.length lcap):=by rw[cell_blk h.blk];rfl
theorem RMem.c1 (h:RMem w0 w rb lb lcap l v k out):w.cell? ⟨rb,1,none⟩=some (.int .i64 k):=by rw[cell_blk h.blk];rfl
theorem RMem.c2 (h:RMem w0 w rb lb lcap l v k out):w.cell? ⟨rb,2,none⟩=some v:=by rw[cell_blk h.blk];rfl
theorem RMem.c3 (h:RMem w0 w rb lb lcap l v k out):w.cell? ⟨rb,3,none⟩=some (.bool false):=by rw[cell_blk h.blk];rfl
theorem RMem.ne_r (h:RMem w0 w rb lb lcap l v k out):∀g,v.ownBlock=some g→g≠rb:=by
 intro g hg e
 obtain⟨cs,h1⟩:=h.own.tag g hg
 rw[e,h.blk]at h1
 injection h1 with h1;injection h1 with _ h1
 exact absurd h1 (by decide)
theorem RMem.drewN (h:RMem w0 w rb lb lcap l v k out) (n:Nat):RMem w0 (w.drewN n) rb lb lcap l v k out:=⟨h.blk,h.own.drewN n,h.ints.drewN n,below_dr h.below n,h.b0,h.b1⟩
theorem RMem.upd (h:RMem w0 w rb lb lcap l v k out) {i k':Nat} {u:Value} (e:(rdC lb l.length lcap v k).setIfInBounds i u=rdC lb l.length lcap v k'):RMem w0 (w.setCell ⟨rb,i,none⟩ u) rb lb lcap l v k' out where
 blk:=by rw[heap_setCell_at h.blk,e]
 own:=h.own.set_ne (fun hg=>h.ne_r _ hg rfl) u
 ints:=h.ints.set_ne (by have:=h.b0;have:=h.b1;simp;omega) u
 below:=h.below.setCell (by have:=h.b0;simp;omega) u
 b0:=h.b0
 b1:=h.b1
theorem RMem.setAt (h:RMem w0 w rb lb lcap l v k out) (k':Nat):RMem w0 (w.setCell ⟨rb,1,none⟩ (.int .i64 k')) rb lb lcap l v k' out:=h.upd rfl
theorem RMem.setAtI (h:RMem w0 w rb lb lcap l v k out) (k':Nat) {x:Int} (hx:x=(k':Int)):RMem w0 (w.setCell ⟨rb,1,none⟩ (.int .i64 x)) rb lb lcap l v k' out:=by subst hx;exact h.setAt k'
theorem RMem.setBad (h:RMem w0 w rb lb lcap l v k out):RMem w0 (w.setCell ⟨rb,3,none⟩ (.bool false)) rb lb lcap l v k out:=h.upd rfl
theorem RMem.alloc (h:RMem w0 w rb lb lcap l v k out) (o:Obj):RMem w0 (w.alloc o) rb lb lcap l v k out:=
 ⟨(Below.heap_alloc _ _ _ (lt_of_blk h.blk)).trans h.blk,h.own.alloc o,h.ints.alloc o,h.below.alloc h.below.size o,h.b0,h.b1⟩
theorem RMem.app (h:RMem w0 w rb lb lcap l v k out) {w':World} {v':Value} {ys:List Nat} (hg:w.grownBy w' v.ownBlock) (ho:Own w' w0.heap.size .u8 5 v' ys):RMem w0 (w'.setCell ⟨rb,2,none⟩ v') rb lb lcap l v' k ys:=by
 have hb:w'.heap[rb]? =some (.cells (rdC lb l.length lcap v k) 71):=(hg.block rb (lt_of_blk h.blk) (fun e=>h.ne_r rb e.symm rfl)).trans h.blk
 have hbl:Below w0.heap.size w0 w':=h.below.grown hg h.below.size (fun g e=>(h.own.lt g e).1)
 refine⟨?_,ho.set_ne ?_ _,(h.ints.grown hg ?_).set_ne (by have:=h.b0;have:=h.b1;simp;omega) _,hbl.setCell (by have:=h.b0;simp;omega) _,h.b0,h.b1⟩
 ·rw[heap_setCell_at hb];rfl
 ·intro e
  obtain⟨cs,h1⟩:=ho.tag _ e
  rw[hb]at h1
  injection h1 with h1;injection h1 with _ h1
  exact absurd h1 (by decide)
 ·intro e;have:=(h.own.lt lb e.symm).1;have:=h.b1;omega
def atOf (w:World) (rb:Nat):Nat:=match w.cell? ⟨rb,1,none⟩with|some (.int _ n)=>n.toNat|_=>0
theorem RMem.at (h:RMem w0 w rb lb lcap l v k out):atOf w rb=k:=by unfold atOf;rw[h.c1];rfl
def PaddedPost (w0:World) (rb lb lcap:Nat) (l:List Nat) (v:Value) (out:List Nat) (e:Ending) (w':World):Prop:=e= .returned (.bool true)∧∃k',RMem w0 w' rb lb lcap l v k' out
set_option maxRecDepth 100000 in
set_option maxHeartbeats 4000000 in
theorem padded_calls (h:RMem w0 w rb lb lcap l v k out) (hl:l.length≤5000) (hk:k≤l.length) (hp:∀j,k≤j→j<l.length→l.getD j 0=padN (j+1)):
 Calls Tryz.prog 37 #[.pointer (some ⟨rb,0,none⟩)] w (PaddedPost w0 rb lb lcap l v out):=by
 have H:=Lib.hid h
 have HP:=Lib.hid hp
 clear h hp
 go_enter Tryz.func37,Tryz.ntmps37
 go_wp2
 go_loopw [2] (fun r wr=>r= .bool false∧∃j,k≤j∧j≤l.length∧Hid (RMem w0 wr rb lb lcap l v j out)) (fun _ wr=>l.length-atOf wr rb)
 case atStart=>exact⟨rfl,k,Nat.le_refl _,hk,H⟩
 case round=>
  obtain⟨rfl,j,hkj,hjl,HR⟩:=hrel
  have k0:=HR.out.c0
  have k1:=HR.out.c1
  by_cases hlt:j<l.length
  ·have hli:(j:Int)<(l.length:Int):=by omega
   obtain⟨z,hz⟩:∃z,z=padN (j+1):=⟨_,rfl⟩
   have P66:=Lib.hid (show ∀w,Calls Tryz.prog 66 #[.int .i64 ((j:Int)+1)] w fun e w'=>e= .returned (.int .i64 z)∧w'=w from fun w=>by rw[hz];exact pad66_calls (j+1) (by omega) (by omega) w)
   have HA:=Lib.hid HR.out.at
   have HZ:=Lib.hid hz
   clear hz
   go_wp2
   go_quiet (fail)
   have HQ:=Lib.hid (HR.out.drewN nq)
   have HQT:=Lib.hid HQ.out.at
   clear k0 k1
   generalize wr.drewN nq=wq at*
   have k0:=HQ.out.c0
   have k1:=HQ.out.c1
   have hx:=HQ.out.ints.2 j hlt
   rw[HP.out j hkj hlt,←HZ.out]at hx
   go_wp2
   go_quiet ((go_at_call 66;exact Calls.quiet_of_same (P66.out _)))
   have HS:=Lib.hid ((HQ.out.drewN nq).setAtI (j+1) (x:=(j:Int)+1) (by omega))
   have f1:=frozen_blk HQ.out.blk 1
   have HT:=Lib.hid HS.out.at
   go_wp2
   exact⟨⟨rfl,j+1,by omega,by omega,HS⟩,by rw[HA.out,HT.out];omega⟩
  ·have hli:¬(j:Int)<(l.length:Int):=by omega
   go_wp2
   go_quiet (fail)
   go_wp2
   go_ret
   exact⟨rfl,j,HR.out.drewN _⟩
end
end
end Go.Proofs.YtcnallabiffemaaGreatDoor
