/- A new context, behind the text's bytes. -/
import Derived.Test.YtcnallabiffemaaGreatDoorZg
set_option linter.unusedVariables false
set_option linter.unusedSimpArgs false
namespace Go.Proofs.YtcnallabiffemaaGreatDoor
section
open Go.RowKit
def symV:Option (Nat×Nat)→Value
 |none=> .pointer none
 |some (_,b)=> .pointer (some ⟨b,0,none⟩)
def ctxC (mb n mcap shape:Nat) (v:Value) (pos ne:Int) (sym:Option (Nat×Nat)) (skip:Int):Array Value:=
 #[.slice (some ⟨mb,0,none⟩) n mcap,.int .i64 shape,.pointer none,.pointer none,v,.int .i64 pos,.int .i64 ne,symV sym,.int .i64 skip]
structure Ctx (w0 w:World) (base c mb mcap shape:Nat) (msg:List Nat) (v:Value) (cw:List Nat) (pos ne:Int) (sym:Option (Nat×Nat)) (skip:Int):Prop where
 blk:w.heap[c]? =some (.cells (ctxC mb msg.length mcap shape v pos ne sym skip) 125)
 own:Own w base .u8 5 v cw
 byt:Bytes w mb msg
 below:Below w0.heap.size w0 w
 b0:w0.heap.size≤base
 b1:base≤c
 b2:mb<base
 b3:base≤w.heap.size
 syms:∀i b,sym=some (i,b)→w.heap[b]? =some (.cells (siOf i) 112)
section
variable {w0 w:World} {base c mb mcap shape:Nat} {msg:List Nat} {v:Value} {cw:List Nat} {pos ne:Int} {sym:Option (Nat×Nat)} {skip:Int}
theorem Own.tag {w:World} {base:Nat} {k:IntKind} {T:TypeId} {v:Value} {xs:List Nat} (h:Own w base k T v xs):∀g,v.ownBlock=some g→∃cs,w.heap[g]? =some (.cells cs T):=by
 intro g hg
 rcases h.look with⟨rfl,_⟩|⟨g1,cap,rest,rfl,_,_,_,_,hb⟩
 ·cases hg
 ·simp only[Value.ownBlock,Option.some.injEq]at hg
  subst hg;exact⟨_,hb⟩
theorem Ctx.ne_c (h:Ctx w0 w base c mb mcap shape msg v cw pos ne sym skip):∀g,v.ownBlock=some g→g≠c:=by
 intro g hg e
 obtain⟨cs,h1⟩:=h.own.tag g hg
 rw[e,h.blk]at h1
 injection h1 with h1;injection h1 with _ h1
 exact absurd h1 (by decide)
theorem Ctx.ne_s (h:Ctx w0 w base c mb mcap shape msg v cw pos ne sym skip) {i b:Nat} (hs:sym=some (i,b)):b≠c∧∀g,v.ownBlock=some g→g≠b:=by
 have h0:=h.syms i b hs
 constructor
 ·intro e;rw[e,h.blk]at h0;injection h0 with h1;injection h1 with _ h1;exact absurd h1 (by decide)
 ·intro g hg e
  obtain⟨cs,h1⟩:=h.own.tag g hg
  rw[e,h0]at h1
  injection h1 with h1;injection h1 with _ h1
  exact absurd h1 (by decide)
theorem Ctx.c0 (h:Ctx w0 w base c mb mcap shape msg v cw pos ne sym skip):w.cell? ⟨c,0,none⟩=some (.slice (some ⟨mb,0,none⟩) msg.length mcap):=by rw[cell_blk h.blk];rfl
theorem Ctx.c1 (h:Ctx w0 w base c mb mcap shape msg v cw pos ne sym skip):w.cell? ⟨c,1,none⟩=some (.int .i64 shape):=by rw[cell_blk h.blk];rfl
theorem Ctx.c2 (h:Ctx w0 w base c mb mcap shape msg v cw pos ne sym skip):w.cell? ⟨c,2,none⟩=some (.pointer none):=by rw[cell_blk h.blk];rfl
theorem Ctx.c3 (h:Ctx w0 w base c mb mcap shape msg v cw pos ne sym skip):w.cell? ⟨c,3,none⟩=some (.pointer none):=by rw[cell_blk h.blk];rfl
theorem Ctx.c4 (h:Ctx w0 w base c mb mcap shape msg v cw pos ne sym skip):w.cell? ⟨c,4,none⟩=some v:=by rw[cell_blk h.blk];rfl
theorem Ctx.c5 (h:Ctx w0 w base c mb mcap shape msg v cw pos ne sym skip):w.cell? ⟨c,5,none⟩=some (.int .i64 pos):=by rw[cell_blk h.blk];rfl
theorem Ctx.c6 (h:Ctx w0 w base c mb mcap shape msg v cw pos ne sym skip):w.cell? ⟨c,6,none⟩=some (.int .i64 ne):=by rw[cell_blk h.blk];rfl
theorem Ctx.c7 (h:Ctx w0 w base c mb mcap shape msg v cw pos ne sym skip):w.cell? ⟨c,7,none⟩=some (symV sym):=by rw[cell_blk h.blk];rfl
theorem Ctx.c8 (h:Ctx w0 w base c mb mcap shape msg v cw pos ne sym skip):w.cell? ⟨c,8,none⟩=some (.int .i64 skip):=by rw[cell_blk h.blk];rfl
theorem Ctx.drewN (h:Ctx w0 w base c mb mcap shape msg v cw pos ne sym skip) (n:Nat):Ctx w0 (w.drewN n) base c mb mcap shape msg v cw pos ne sym skip:=
 ⟨h.blk,h.own.drewN n,h.byt.drewN n,below_dr h.below n,h.b0,h.b1,h.b2,h.b3,h.syms⟩
theorem Ctx.upd (h:Ctx w0 w base c mb mcap shape msg v cw pos ne sym skip) {k:Nat} {u:Value} {pos' ne' skip':Int}
 (e:(ctxC mb msg.length mcap shape v pos ne sym skip).setIfInBounds k u=ctxC mb msg.length mcap shape v pos' ne' sym skip'):
 Ctx w0 (w.setCell ⟨c,k,none⟩ u) base c mb mcap shape msg v cw pos' ne' sym skip' where
 blk:=by rw[heap_setCell_at h.blk,e]
 own:=h.own.set_ne (fun hg=>h.ne_c _ hg rfl) u
 byt:=h.byt.set_ne (by have:=h.b1;have:=h.b2;simp;omega) u
 below:=h.below.setCell (by have:=h.b0;have:=h.b1;simp;omega) u
 b0:=h.b0
 b1:=h.b1
 b2:=h.b2
 b3:=by have:=h.b3;simpa[World.setCell]using this
 syms:=fun i b hs=>by rw[Below.heap_setCell _ _ _ _ (by have:=(h.ne_s hs).1;simpa using this)];exact h.syms i b hs
theorem Ctx.setPos (h:Ctx w0 w base c mb mcap shape msg v cw pos ne sym skip) (p:Int):Ctx w0 (w.setCell ⟨c,5,none⟩ (.int .i64 p)) base c mb mcap shape msg v cw p ne sym skip:=h.upd rfl
theorem Ctx.setNe (h:Ctx w0 w base c mb mcap shape msg v cw pos ne sym skip) (p:Int):Ctx w0 (w.setCell ⟨c,6,none⟩ (.int .i64 p)) base c mb mcap shape msg v cw pos p sym skip:=h.upd rfl
theorem Ctx.setSkip (h:Ctx w0 w base c mb mcap shape msg v cw pos ne sym skip) (p:Int):Ctx w0 (w.setCell ⟨c,8,none⟩ (.int .i64 p)) base c mb mcap shape msg v cw pos ne sym p:=h.upd rfl
theorem Ctx.setCw (h:Ctx w0 w base c mb mcap shape msg v cw pos ne sym skip) {w':World} {v':Value} {cw':List Nat} {row:Option Nat} (hg:w.grownBy w' row) (hr:∀g,row=some g→base≤g∧g≠c∧(∀i b,sym=some (i,b)→g≠b))
 (ho:Own w' base .u8 5 v' cw'):Ctx w0 (w'.setCell ⟨c,4,none⟩ v') base c mb mcap shape msg v' cw' pos ne sym skip:=by
 have hcl:c<w.heap.size:=lt_of_some h.blk
 have hb:w'.heap[c]? =some (.cells (ctxC mb msg.length mcap shape v pos ne sym skip) 125):=(hg.block c hcl (fun e=>(hr _ e.symm).2.1 rfl)).trans h.blk
 have hs:∀i b,sym=some (i,b)→w'.heap[b]? =some (.cells (siOf i) 112):=fun i b e=>by
  have h1:=h.syms i b e
  exact(hg.block b (lt_of_some h1) (fun e2=>(hr _ e2.symm).2.2 i b e rfl)).trans h1
 have hbl:Below w0.heap.size w0 w':=h.below.grown hg (h.below.size) (fun g e=>Nat.le_trans h.b0 (hr g e).1)
 have hb1:=h.b1
 have hb2:=h.b2
 refine⟨?_,ho.set_ne ?_ _,(h.byt.grown hg ?_).set_ne (by simp;omega) _,hbl.setCell (by have:=h.b0;simp;omega) _,h.b0,h.b1,h.b2,?_,fun i b e=>?_⟩
 ·rw[heap_setCell_at hb];rfl
 ·intro e
  obtain⟨cs,h1⟩:=ho.tag _ e
  rw[hb]at h1
  injection h1 with h1;injection h1 with _ h1
  exact absurd h1 (by decide)
 ·intro e;have:=(hr mb e.symm).1;omega
 ·have:=h.b3;have:=hg.size;simp[World.setCell];omega
 ·rw[Below.heap_setCell _ _ _ _ (by have:=(h.ne_s e).1;simpa using this)];exact hs i b e
theorem Ctx.alloc (h:Ctx w0 w base c mb mcap shape msg v cw pos ne sym skip) (o:Obj):Ctx w0 (w.alloc o) base c mb mcap shape msg v cw pos ne sym skip:=by
 have hcl:c<w.heap.size:=lt_of_some h.blk
 refine⟨?_,h.own.alloc o,h.byt.alloc o,h.below.alloc h.below.size o,h.b0,h.b1,h.b2,by have:=h.b3;simp;omega,fun i b e=>?_⟩
 ·rw[Below.heap_alloc _ _ _ hcl];exact h.blk
 ·rw[Below.heap_alloc _ _ _ (lt_of_some (h.syms i b e))];exact h.syms i b e
end
end
section
open Go.RowKit
section
variable {w0 w:World} {base c mb mcap shape:Nat} {msg:List Nat} {v:Value} {cw:List Nat} {pos ne:Int} {sym:Option (Nat×Nat)} {skip:Int}
theorem Own.slice {w:World} {base:Nat} {k:IntKind} {T:TypeId} {v:Value} {xs:List Nat} (h:Own w base k T v xs) (hl:0<xs.length):∃g cap,v= .slice (some ⟨g,0,none⟩) xs.length cap:=by
 rcases h.look with⟨_,hn⟩|⟨g,cap,rest,hv,_⟩
 ·rw[hn]at hl;exact absurd hl (by decide)
 ·exact⟨g,cap,hv⟩
set_option maxRecDepth 100000 in
set_option maxHeartbeats 2000000 in
theorem putC_calls (h:Ctx w0 w base c mb mcap shape msg v cw pos ne sym skip) (n:Nat) (x:Int) (hx:x=(n:Int)) (hl:cw.length≤5000):
 Calls Tryz.prog 87 #[.pointer (some ⟨c,0,none⟩),.int .u8 x] w fun e w'=>e= .returned (.tuple #[])∧∃v',Ctx w0 w' base c mb mcap shape msg v' (cw++[n]) pos ne sym skip:=by
 subst hx
 have c4:=h.c4
 have H:=Lib.hid h
 clear h
 go_enter Tryz.func87,Tryz.ntmps87
 go_wp2_with (first|(refine app49 rfl (.tmp 8) (.tmp 10) rfl base v cw rfl (H.out.own.alloc _) w.heap.size 1 1 [n] rfl rfl (Bytes.one rfl) (by simp;omega) (by have:=H.out.b3;simp;omega) ?_;intro v' w' ho hg hne;obtain⟨gx,capx,rfl⟩:=ho.slice (by simp);clear hne;have hA:=H.out.alloc (.cells #[.int .u8 (n:Int)] 5);have hbk:=(hg.block c (lt_of_some hA.blk) (fun e=>hA.ne_c _ e.symm rfl)).trans hA.blk;have k4:w'.cell? ⟨c,4,none⟩=some v:=(cell_blk hbk 4).trans rfl;have f4:=frozen_blk hbk 4;have S:=Lib.hid (hA.setCw hg (fun g e=>⟨(hA.own.lt g e).1,hA.ne_c g e,fun i b e2=>(hA.ne_s e2).2 g e⟩) ho);clear hA hbk))
 go_end0
 have S:=S.out
 simp only[List.length_append,List.length_cons,List.length_nil,Nat.zero_add]at S
 exact⟨rfl,_,S⟩
theorem getMsg_calls (h:Ctx w0 w base c mb mcap shape msg v cw pos ne sym skip):
 Calls Tryz.prog 172 #[.pointer (some ⟨c,0,none⟩)] w fun e w'=>e= .returned (.slice (some ⟨mb,0,none⟩) msg.length mcap)∧w'=w:=by
 have k:=h.c0
 clear h
 go_enter Tryz.func172,Tryz.ntmps172
 go_wp2
 go_ret
 exact⟨rfl,rfl⟩
theorem total_calls (h:Ctx w0 w base c mb mcap shape msg v cw pos ne sym skip) (hm:msg.length≤100000) (hs0:0≤skip) (hs1:skip≤100000):
 Calls Tryz.prog 129 #[.pointer (some ⟨c,0,none⟩)] w fun e w'=>e= .returned (.int .i64 ((msg.length:Int)-skip))∧∃m,w'=w.drewN m:=by
 have k:=h.c0
 have k8:=h.c8
 clear h
 go_enter Tryz.func129,Tryz.ntmps129
 go_wp2
 go_quiet (fail)
 go_wp2
 go_ret
 exact⟨rfl,_,rfl⟩
theorem more_calls (h:Ctx w0 w base c mb mcap shape msg v cw pos ne sym skip) (hm:msg.length≤100000) (hs0:0≤skip) (hs1:skip≤100000):
 Calls Tryz.prog 89 #[.pointer (some ⟨c,0,none⟩)] w fun e w'=>e= .returned (.bool (decide (pos<(msg.length:Int)-skip)))∧∃m,w'=w.drewN m:=by
 have k5:=h.c5
 have H:=Lib.hid h
 clear h
 go_enter Tryz.func89,Tryz.ntmps89
 go_wp2
 go_quiet ((go_at_call 129;exact Calls.quiet_of (total_calls (H.out.drewN _) hm hs0 hs1)))
 go_wp2
 go_ret
 exact⟨rfl,_,rfl⟩
theorem cur_calls {p:Nat} (h:Ctx w0 w base c mb mcap shape msg v cw p ne sym skip) (hm:msg.length≤100000) (hp:p<msg.length):
 Calls Tryz.prog 174 #[.pointer (some ⟨c,0,none⟩)] w fun e w'=>e= .returned (.int .u8 ((msg.getD p 0:Nat):Int))∧∃m,w'=w.drewN m:=by
 have k0:=h.c0
 have k5:=h.c5
 have cx:=h.byt.2 p hp
 have hpi:(p:Int)<(msg.length:Int):=by omega
 clear h
 generalize ((msg.getD p 0:Nat):Int)=z at*
 go_enter Tryz.func174,Tryz.ntmps174
 go_wp2
 go_quiet (fail)
 go_wp2
 go_ret
 exact⟨rfl,_,rfl⟩
def isDig (n:Nat):Bool:=decide (48≤n)&&decide (n≤57)
def digRun:List Nat→Nat
 |[]=>0
 |n::r=>if isDig n then digRun r+1 else 0
end
end
section
open Go.RowKit
theorem isDig_calls (n:Nat) (w:World):Calls Tryz.prog 178 #[.int .u8 n] w fun e w'=>e= .returned (.bool (isDig n))∧w'=w:=by
 by_cases h1:48≤n
 ·by_cases h2:n≤57
  ·have e:isDig n=true:=by simp[isDig,h1,h2]
   rw[e]
   have h3:(48:Int)≤(n:Int):=by omega
   have h4:(n:Int)≤57:=by omega
   go_enter Tryz.func178,Tryz.ntmps178
   go_wp2
   go_ret
   exact⟨rfl,rfl⟩
  ·have e:isDig n=false:=by simp[isDig,h2]
   rw[e]
   have h3:(48:Int)≤(n:Int):=by omega
   have h4:¬(n:Int)≤57:=by omega
   go_enter Tryz.func178,Tryz.ntmps178
   go_wp2
   go_ret
   exact⟨rfl,rfl⟩
 ·have e:isDig n=false:=by simp[isDig,h1]
  rw[e]
  have h3:¬(48:Int)≤(n:Int):=by omega
  go_enter Tryz.func178,Tryz.ntmps178
  go_wp2
  go_ret
  exact⟨rfl,rfl⟩
theorem isDigT_calls {n:Nat} (h:isDig n=true) (w:World):Calls Tryz.prog 178 #[.int .u8 n] w fun e w'=>e= .returned (.bool true)∧w'=w:=h▸isDig_calls n w
theorem isDigF_calls {n:Nat} (h:isDig n=false) (w:World):Calls Tryz.prog 178 #[.int .u8 n] w fun e w'=>e= .returned (.bool false)∧w'=w:=h▸isDig_calls n w
theorem digRun_drop {msg:List Nat} {p:Nat} (h:p<msg.length):digRun (msg.drop p)=if isDig (msg.getD p 0)then digRun (msg.drop (p+1))+1 else 0:=by
 rw[List.drop_eq_getElem_cons h,digRun,List.getD_eq_getElem?_getD,List.getElem?_eq_getElem h,Option.getD_some]
theorem digRun_end {msg:List Nat} {p:Nat} (h:msg.length≤p):digRun (msg.drop p)=0:=by rw[List.drop_eq_nil_of_le h];rfl
theorem digRun_le (msg:List Nat):digRun msg≤msg.length:=by
 induction msg with
 |nil=>simp[digRun]
 |cons n r ih=>simp only[digRun];split<;>simp<;>omega
set_option maxRecDepth 100000 in
set_option maxHeartbeats 2000000 in
theorem digs_calls {w:World} {mb mcap:Nat} {msg:List Nat} (h:Bytes w mb msg) (p:Nat) (hp:p≤msg.length) (hl:msg.length≤100000):
 Calls Tryz.prog 171 #[.slice (some ⟨mb,0,none⟩) msg.length mcap,.int .i64 p] w fun e w'=>e= .returned (.int .i64 (digRun (msg.drop p):Nat))∧w'=w:=by
 have H:=Lib.hid h
 clear h
 by_cases hlt:p<msg.length
 ·have cx:=H.out.2 p hlt
  obtain⟨z,hz⟩:∃z,z=msg.getD p 0:=⟨_,rfl⟩
  rw[←hz]at cx
  have HZ:=Lib.hid hz
  clear hz
  have hpi:(p:Int)<(msg.length:Int):=by omega
  go_enter Tryz.func171,Tryz.ntmps171
  go_wp2
  go_loopw [5,7,8] (fun c i ch wr=>wr=w∧∃k z:Nat,p+k≤msg.length∧c= .int .i64 k∧i= .int .i64 ((p:Int)+k)∧ch= .int .u8 z∧Hid (p+k<msg.length→z=msg.getD (p+k) 0)∧Hid (digRun (msg.drop p)=k+digRun (msg.drop (p+k)))) (fun c _ _ _=>msg.length-(intOf c).toNat)
  case atStart=>exact⟨rfl,0,z,by omega,rfl,by simp,rfl,fun _=>HZ.out,by simp[Hid]⟩
  case round=>
   clear HZ
   obtain⟨rfl,k,z,hk,rfl,rfl,rfl,hzk,hd⟩:=hrel
   by_cases hk2:p+k<msg.length
   ·have hkr:=digRun_drop hk2
    rw[←hzk.out hk2]at hkr
    by_cases hdz:isDig z=true
    ·rw[if_pos hdz]at hkr
     have hd2:=Lib.hid (show digRun (msg.drop p)=(k+1)+digRun (msg.drop (p+(k+1))) by rw[hd.out,hkr];rw[Nat.add_assoc p k 1];omega)
     have hki:(p:Int)+(k:Int)<(msg.length:Int):=by omega
     clear hkr
     by_cases hk3:p+(k+1)<msg.length
     ·have cx2:=H.out.2 (p+k+1) hk3
      obtain⟨z2,hz2⟩:∃z2,z2=msg.getD (p+k+1) 0:=⟨_,rfl⟩
      rw[←hz2]at cx2
      have HZ2:=Lib.hid hz2
      clear hz2
      have hki2:(p:Int)+(k:Int)+1<(msg.length:Int):=by omega
      go_wp2_with (first|(go_at_call 178;refine(isDigT_calls hdz _).mono ?_;rintro e w' ⟨rfl,rfl⟩))
      exact⟨⟨trivial,k+1,z2,by omega,by go_num,by go_num,rfl,fun _=>HZ2.out,hd2⟩,by simp[intOf];omega⟩
     ·have hki2:¬(p:Int)+(k:Int)+1<(msg.length:Int):=by omega
      go_wp2_with (first|(go_at_call 178;refine(isDigT_calls hdz _).mono ?_;rintro e w' ⟨rfl,rfl⟩))
      exact⟨⟨trivial,k+1,z,by omega,by go_num,by go_num,rfl,fun hh=>absurd hh hk3,hd2⟩,by simp[intOf];omega⟩
    ·have hdz:isDig z=false:=by simpa using hdz
     rw[hdz,if_neg (by simp)]at hkr
     have hd3:=hd.out
     rw[hkr]at hd3
     have HD3:=Lib.hid hd3
     clear hd3 hkr
     go_wp2_with (first|(go_at_call 178;refine(isDigF_calls hdz _).mono ?_;rintro e w' ⟨rfl,rfl⟩))
     go_ret
     exact⟨by rw[HD3.out];rfl,rfl⟩
   ·have hd3:=hd.out
    rw[digRun_end (p:=p+k) (by omega)]at hd3
    have HD3:=Lib.hid hd3
    clear hd3
    have hki:¬(p:Int)+(k:Int)<(msg.length:Int):=by omega
    cases hdz:isDig z
    ·go_wp2_with (first|(go_at_call 178;refine(isDigF_calls hdz _).mono ?_;rintro e w' ⟨rfl,rfl⟩))
     go_ret
     exact⟨by rw[HD3.out];rfl,rfl⟩
    ·go_wp2_with (first|(go_at_call 178;refine(isDigT_calls hdz _).mono ?_;rintro e w' ⟨rfl,rfl⟩))
     go_ret
     exact⟨by rw[HD3.out];rfl,rfl⟩
 ·have hpi:¬(p:Int)<(msg.length:Int):=by omega
  have hd:=Lib.hid (digRun_end (msg:=msg) (p:=p) (by omega))
  go_enter Tryz.func171,Tryz.ntmps171
  go_wp2
  go_ret
  exact⟨by rw[hd.out];rfl,rfl⟩
end
section
open Go.RowKit
set_option maxRecDepth 100000 in
theorem pair_calls {a b:Nat} (ha:isDig a=true) (hb:isDig b=true) (w:World):
 Calls Tryz.prog 173 #[.int .u8 a,.int .u8 b] w fun e w'=>e= .returned (.tuple #[.int .u8 (((a-48)*10+(b-48)+130:Nat):Int),.nilIface])∧w'=w:=by
 have ha2:48≤a∧a≤57:=by simpa[isDig]using ha
 have hb2:48≤b∧b≤57:=by simpa[isDig]using hb
 obtain⟨a1,a2⟩:=ha2
 obtain⟨b1,b2⟩:=hb2
 have ai1:(48:Int)≤(a:Int):=by omega
 have ai2:(a:Int)≤57:=by omega
 have bi1:(48:Int)≤(b:Int):=by omega
 have bi2:(b:Int)≤57:=by omega
 go_enter Tryz.func173,Tryz.ntmps173
 have da:=isDigT_calls ha
 have db:=isDigT_calls hb
 clear ha hb
 go_wp2_with (first|(go_at_call_of 178 (Value.int .u8 (a:Int));refine(da _).mono ?_;rintro e w' ⟨rfl,rfl⟩)|(go_at_call_of 178 (Value.int .u8 (b:Int));refine(db _).mono ?_;rintro e w' ⟨rfl,rfl⟩))
 go_ret2
 refine⟨?_,rfl⟩
 have e:(((a:Int)-48)*10+((b:Int)-48)+130)=(((a-48)*10+(b-48)+130:Nat):Int):=by omega
 rw[←e]
 rfl
end
section
open Go.RowKit
section
variable {w0 w:World} {base c mb mcap shape:Nat} {msg:List Nat} {v:Value} {cw:List Nat} {pos ne:Int} {sym:Option (Nat×Nat)} {skip:Int}
def pairOf (a b:Nat):Nat:=(a-48)*10+(b-48)+130
theorem digRun_two {msg:List Nat} {p:Nat} (h:2≤digRun (msg.drop p)):p+1<msg.length∧isDig (msg.getD p 0)=true∧isDig (msg.getD (p+1) 0)=true:=by
 rcases Nat.lt_or_ge p msg.length with h1|h1
 ·rw[digRun_drop h1]at h
  by_cases d1:isDig (msg.getD p 0)=true
  ·rw[if_pos d1]at h
   rcases Nat.lt_or_ge (p+1) msg.length with h2|h2
   ·rw[digRun_drop h2]at h
    by_cases d2:isDig (msg.getD (p+1) 0)=true
    ·exact⟨h2,d1,d2⟩
    ·rw[if_neg d2]at h;omega
   ·rw[digRun_end h2]at h;omega
  ·rw[if_neg d1]at h;omega
 ·rw[digRun_end h1]at h;omega
set_option maxRecDepth 100000 in
set_option maxHeartbeats 4000000 in
theorem asciiPair_calls {p:Nat} (h:Ctx w0 w base c mb mcap shape msg v cw p ne sym skip) (hm:msg.length≤100000) (hc:cw.length≤5000) (hd:2≤digRun (msg.drop p)):
 Calls Tryz.prog 169 #[.agg #[],.pointer (some ⟨c,0,none⟩)] w fun e w'=>e= .returned .nilIface∧∃v',Ctx w0 w' base c mb mcap shape msg v' (cw++[pairOf (msg.getD p 0) (msg.getD (p+1) 0)]) (p+2) ne sym skip:=by
 obtain⟨hp,d1,d2⟩:=digRun_two hd
 obtain⟨a,hqa⟩:∃a,a=msg.getD p 0:=⟨_,rfl⟩
 obtain⟨b,hqb⟩:∃b,b=msg.getD (p+1) 0:=⟨_,rfl⟩
 rw[←hqa]at d1 ⊢
 rw[←hqb]at d2 ⊢
 have QA:=Lib.hid hqa
 have QB:=Lib.hid hqb
 have H:=Lib.hid h
 clear h hqa hqb
 have hd':(2:Int)≤((digRun (msg.drop p):Nat):Int):=by omega
 have hpi:(p:Int)+1<(msg.length:Int):=by omega
 have hpi0:(p:Int)<(msg.length:Int):=by omega
 have hpw:IntKind.i64.wrap ((p:Int)+1)=(p:Int)+1:=IntWalk.i64_in _ (by omega)
 have hp0:(0:Int)≤(p:Int)+1:=by omega
 have hpt:((p:Int)+1).toNat=p+1:=by omega
 go_enter Tryz.func169,Tryz.ntmps169
 go_wp2
 have HA:=Lib.hid (H.out.alloc (.cells #[] 158))
 generalize w.alloc (.cells #[] 158)=wa at*
 have k5:=HA.out.c5
 have x0:=HA.out.byt.2 p (by omega)
 have x1:=HA.out.byt.2 (p+1) hp
 rw[←QA.out]at x0
 rw[←QB.out]at x1
 have dg:=fun n=>digs_calls (mcap:=mcap) (HA.out.byt.drewN n) p (by omega) hm
 generalize digRun (msg.drop p)=dr at*
 have pr:=pair_calls d1 d2
 have gm:=fun n=>getMsg_calls (HA.out.drewN n)
 clear d1 d2
 go_quiet (first|(go_at_call 172;exact Calls.quiet_of_same (gm _))|(go_at_call 171;exact Calls.quiet_of_same (dg _)))
 go_wp2
 have HB:=Lib.hid (HA.out.drewN nq)
 have y0:(wa.drewN nq).cell? ⟨mb,p,none⟩=some (.int .u8 (a:Int)):=x0
 have y1:(wa.drewN nq).cell? ⟨mb,p+1,none⟩=some (.int .u8 (b:Int)):=x1
 clear x0 x1 k5 dg gm
 generalize wa.drewN nq=wb at*
 have k5:=HB.out.c5
 have gm:=fun n=>getMsg_calls (HB.out.drewN n)
 go_quiet (first|(go_at_call 172;exact Calls.quiet_of_same (gm _))|(go_at_call 173;exact Calls.quiet_of_same (pr _)))
 go_wp2_with (first|(go_at_call 87;refine(putC_calls (HB.out.drewN _) (pairOf a b) _ rfl hc).mono ?_;rintro e w2 ⟨rfl,v2,hc2⟩;have l5:=hc2.c5;have f5:=frozen_blk hc2.blk 5;have S:=Lib.hid (hc2.setPos ((p:Int)+2));clear hc2))
 go_ret
 exact⟨rfl,_,S.out⟩
end
end
section
open Go.RowKit
section
variable {w0 w:World} {base c mb mcap shape:Nat} {msg:List Nat} {v:Value} {cw:List Nat} {pos ne:Int} {sym:Option (Nat×Nat)} {skip:Int}
theorem Ctx.keep (h:Ctx w0 w base c mb mcap shape msg v cw pos ne sym skip) {w':World} (hb:Below w.heap.size w w'):Ctx w0 w' base c mb mcap shape msg v cw pos ne sym skip:=
 ⟨(hb.block _ (lt_of_some h.blk)).trans h.blk,h.own.below hb (fun g hg=>(h.own.lt g hg).2),h.byt.below hb h.byt.1,h.below.trans (hb.mono h.below.size),h.b0,h.b1,h.b2,Nat.le_trans h.b3 hb.size,
   fun i b e=>(hb.block _ (lt_of_some (h.syms i b e))).trans (h.syms i b e)⟩
theorem Ctx.setSym (h:Ctx w0 w base c mb mcap shape msg v cw pos ne sym skip) {i b:Nat} (hs:w.heap[b]? =some (.cells (siOf i) 112)):
 Ctx w0 (w.setCell ⟨c,7,none⟩ (.pointer (some ⟨b,0,none⟩))) base c mb mcap shape msg v cw pos ne (some (i,b)) skip:=by
 have hbc:b≠c:=by
  intro e;rw[e,h.blk]at hs;injection hs with h1;injection h1 with _ h1;exact absurd h1 (by decide)
 refine⟨by rw[heap_setCell_at h.blk];rfl,h.own.set_ne (fun hg=>h.ne_c _ hg rfl) _,h.byt.set_ne (by have:=h.b1;have:=h.b2;simp;omega) _,h.below.setCell (by have:=h.b0;have:=h.b1;simp;omega) _,h.b0,h.b1,h.b2,
  by have:=h.b3;simpa[World.setCell]using this,?_⟩
 intro i' b' e
 injection e with e;injection e with e1 e2;subst e1 e2
 rw[Below.heap_setCell _ _ _ _ (by simpa using hbc)];exact hs
set_option maxRecDepth 100000 in
set_option maxHeartbeats 4000000 in
theorem upd_calls {i len:Nat} (h:Ctx w0 w base c mb mcap shape msg v cw pos ne none skip) (hs:shape<3) (hl:lookSym (len:Int) shape=some i):
 Calls Tryz.prog 130 #[.pointer (some ⟨c,0,none⟩),.int .i64 len] w fun e w'=>e= .returned .nilIface∧∃b,Ctx w0 w' base c mb mcap shape msg v cw pos ne (some (i,b)) skip:=by
 have k1:=h.c1
 have k2:=h.c2
 have k3:=h.c3
 have k7:w.cell? ⟨c,7,none⟩=some (.pointer none):=h.c7
 have H:=Lib.hid h
 have L:=Lib.hid hl
 clear h hl
 go_enter Tryz.func130,Tryz.ntmps130
 go_wp2
 go_region_with ((go_at_call 42;refine(lookI_calls hs L.out _).mono ?_;rintro e w2 ⟨bs,rfl,hbs,hsi,b2⟩;have HC:=Lib.hid ((H.out.drewN _).keep b2);have l7:w2.cell? ⟨c,7,none⟩=some (.pointer none):=HC.out.c7;have f7:=frozen_blk HC.out.blk 7;have S:=Lib.hid (HC.out.setSym hsi);clear hsi b2))
 all_goals go_wp2
 all_goals go_ret
 all_goals exact⟨rfl,_,S.out⟩
end
end
section
open Go.RowKit
theorem and255 {z:Nat} (hz:z<256):Go.bits .and .u8 (z:Int) 255=(z:Int):=by
 rw[show (255:Int)=((255:Nat):Int)from rfl,u8_and_nat z 255 hz (by omega)]
 congr 1
 exact Nat.and_two_pow_sub_one_of_lt_two_pow (n:=8) hz
def NewCPost (msg:List Nat) (w:World) (e:Ending) (w':World):Prop:=
 ∃base c mb mcap v,e= .returned (.tuple #[.pointer (some ⟨c,0,none⟩),.nilIface])∧Ctx w w' base c mb mcap 0 msg v [] 0 (-1) none 0
theorem take_snoc {xs:List Nat} {k:Nat} (h:k<xs.length):xs.take k++[xs.getD k 0]=xs.take (k+1):=by
 rw[List.take_add_one,List.getD_eq_getElem?_getD,List.getElem?_eq_getElem h];rfl
set_option maxRecDepth 100000 in
set_option maxHeartbeats 4000000 in
theorem newC_calls {w:World} {s:ByteArray} {msg:List Nat} (h126:Calls Tryz.prog 126 #[.int .i64 1,.string s] w (HighPost msg w)) (h1:1≤msg.length) (hm:msg.length≤5000) (hsm:Small msg):
 Calls Tryz.prog 82 #[.string s] w (NewCPost msg w):=by
 go_enter Tryz.func82,Tryz.ntmps82
 have hmk0:=fun w=>make49 0 (msg.length:Int) (by omega) (by omega) (by omega) w
 rw[Int.toNat_natCast]at hmk0
 go_wp2_with (first|(go_at_call 126;refine(h126.mono fun e w' ⟨v,k1,k2,k3⟩=>RowPost.of h1 k1 k2 k3).mono ?_;rintro e w1 ⟨g1,cap1,rfl,o1,b1⟩;have O1:=Lib.hid o1;have B1:=Lib.hid b1;clear o1 b1))
 go_loopw [6,7] (fun sb i wr=>∃k:Nat,k≤msg.length∧i= .int .i64 k∧∃g cap,sb= .slice (some ⟨g,0,none⟩) k cap∧Hid (Own wr w1.heap.size .u8 5 (.slice (some ⟨g,0,none⟩) k cap) (msg.take k))∧Hid (Below w1.heap.size w1 wr)) (fun _ i _=>msg.length-(intOf i).toNat)
 case atStart=>
  refine⟨0,by omega,rfl,w1.heap.size,msg.length,rfl,?_,(Below.refl _ _).alloc (Nat.le_refl _) _⟩
  exact Own.of_room (c:=msg.length) (by rw[alloc_heap];exact Array.getElem?_push_size) (by simp) (Nat.le_refl _) (by simp only[maxLen];omega)
 case round=>
  obtain⟨k,hk,rfl,g,cap,rfl,ho,hb⟩:=hrel
  by_cases hlt:k<msg.length
  ·have cx:=(O1.out.below hb.out O1.out.1).2 k hlt
   have hz:=hsm k
   have hsn:=take_snoc hlt
   obtain⟨z,hzz⟩:∃z,z=msg.getD k 0:=⟨_,rfl⟩
   rw[←hzz]at cx hz hsn
   have ha:=and255 hz
   have HSN:=Lib.hid hsn
   clear hzz hsn
   have hki:(k:Int)<(msg.length:Int):=by omega
   have hlk:(msg.take k).length=k:=by simp;omega
   have HLK:=Lib.hid hlk
   clear hlk
   go_wp2_with (first|(refine app49 rfl (.tmp 36) (.tmp 38) rfl w1.heap.size _ (msg.take k) rfl (ho.out.alloc _) wr.heap.size 1 1 [z] rfl rfl (Bytes.one rfl) (by simp;omega) (by have:=hb.out.size;simp;omega) ?_;intro v' w' ho2 hg hne;rw[HSN.out]at ho2;obtain⟨gx,capx,hv⟩:=ho2.slice (by simp;omega);rw[List.length_take,Nat.min_eq_left (by omega)]at hv;subst hv;have HO:=Lib.hid ho2;have HB:=Lib.hid ((hb.out.alloc hb.out.size _).grown hg (by have:=hb.out.size;simp;omega) (fun g2 e=>(ho.out.lt g2 e).1));clear ho2 hg hne))
   exact⟨⟨k+1,by omega,by go_num,gx,capx,rfl,HO,HB⟩,by simp[intOf];omega⟩
  ·obtain rfl:msg.length=k:=by omega
   have hmk1:=make49 0 (msg.length:Int) (by omega) (by omega) (by omega) wr
   rw[Int.toNat_natCast]at hmk1
   go_wp2
   go_ret2
   have ho':=ho.out
   rw[List.take_length]at ho'
   have hz1:=B1.out.size
   have hz2:=hb.out.size
   have hbw:Below w.heap.size w wr:=B1.out.trans (hb.out.mono hz1)
   refine⟨wr.heap.size,wr.heap.size+1,g,cap,.slice (some ⟨wr.heap.size,0,none⟩) 0 msg.length,rfl,new_last (by simp) _,?_,(ho'.bytes.alloc _).alloc _,(hbw.alloc (by omega) _).alloc (by simp;omega) _,by omega,by omega,(ho'.lt g rfl).2,by simp;omega,fun i b e=>by cases e⟩
   exact(Own.of_room (c:=msg.length) (by rw[alloc_heap];exact Array.getElem?_push_size) (by simp) (Nat.le_refl _) (by simp only[maxLen];omega)).alloc _
end
end Go.Proofs.YtcnallabiffemaaGreatDoor
