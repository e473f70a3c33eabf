/- impl.HighLevel. -/
import Derived.Test.YtcnallabiffemaaGreatDoorZw
import Derived.Test.YtcnallabiffemaaGreatDoorZh1
import Derived.Test.YtcnallabiffemaaGreatDoorZg14
set_option linter.unusedVariables false
set_option linter.unusedSimpArgs false
namespace Go.Proofs.YtcnallabiffemaaGreatDoor
open Go.RowKit
def HlR (po base:Nat) (msg:List Nat) (shape:Nat) (wq:World) (b:Bool) (w':World):Prop:=
 b=true∧∃l i g cap,HighG msg shape l i∧Ints w' g l∧base≤g∧w'.heap[po]? =some (.cells #[.slice (some ⟨g,0,none⟩) l.length cap] 28)∧But po wq w'
def HlIn (po base:Nat) (msg:List Nat) (shape:Nat) (wq:World) (e:Ending) (w':World):Prop:=∃b,e= .returned (.bool b)∧HlR po base msg shape wq b w'
set_option maxRecDepth 100000 in
set_option maxHeartbeats 2000000 in
theorem hlClo_calls {wq:World} {pt ps po shape:Nat} {s:ByteArray} {msg:List Nat} (hpt:wq.cell? ⟨pt,0,none⟩=some (.string s)) (hps:wq.cell? ⟨ps,0,none⟩=some (.int .i64 shape))
 (hpo:wq.heap[po]? =some (.cells #[.slice none 0 0] 28)) (h46:∀w,Calls Tryz.prog 46 #[.string s,.int .i64 shape,.pointer none,.pointer none] w (HighE msg shape w)):
 Calls Tryz.prog 45 #[.pointer (some ⟨pt,0,none⟩),.pointer (some ⟨ps,0,none⟩),.pointer (some ⟨po,0,none⟩)] wq (HlIn po wq.heap.size msg shape wq):=by
 have HPO:=Lib.hid hpo
 have H46:=Lib.hid h46
 have hpl:=lt_of_blk hpo
 clear hpo h46
 go_enter Tryz.func45,Tryz.ntmps45
 go_wp2_with (first
  |(go_at_call 46;refine(H46.out _).mono ?_;rintro e w1 ⟨l,i,hg,v,rfl,ho,hb⟩;obtain⟨g1,cap1,rfl⟩:=ho.slice hg.n1;have HG:=Lib.hid hg;have HO:=Lib.hid ho;have HB:=Lib.hid hb;clear hg ho hb)
  |(go_at_call 47;refine(ints_calls HO.out.bytes (small_of_mem HG.out.sm) HG.out.n1 (Nat.le_trans HG.out.n2 (by decide))).mono ?_;rintro e w3 ⟨g3,c3,rfl,hg3,o3,hb3⟩;have HO3:=Lib.hid o3;have HB3:=Lib.hid (HB.out.trans (hb3.mono HB.out.size));have kp:=((HB.out.trans (hb3.mono HB.out.size)).block po hpl).trans HPO.out;have k0:=cell_blk kp 0;have f0:=frozen_blk kp 0;have HKP:=Lib.hid kp;clear o3 hb3 kp))
 go_ret
 have z2:=HB.out.size
 refine⟨true,rfl,rfl,l,i,g3,c3,HG.out,HO3.out.set_ne (by simp;omega) _,by omega,?_,?_⟩
 ·rw[heap_setCell_at HKP.out];rfl
 ·exact⟨(HB3.out.mono (B':=po) (Nat.le_of_lt hpl)).setCell (Nat.le_refl _) _,fun x hx hne=>(Below.heap_setCell _ _ _ _ hne).trans (HB3.out.block x hx)⟩
theorem enter45 (a b c:Value):∀w,(callFunc 45 #[a,b,c]).run Tryz.prog w= .ok (.enter 45 #[a,b,c]) w:=fun _=>by kernel_rfl
def HlTry (po:Nat) (msg:List Nat) (shape:Nat) (w:World) (e:Ending) (w':World):Prop:=
 ∃l i g cap,e= .returned (.bool true)∧HighG msg shape l i∧Ints w' g l∧po<g∧w'.heap[po]? =some (.cells #[.slice (some ⟨g,0,none⟩) l.length cap] 28)∧Below w.heap.size w w'
theorem hl_try {w w3:World} {s:ByteArray} {pt ps po shape:Nat} {msg:List Nat} (h46:∀w,Calls Tryz.prog 46 #[.string s,.int .i64 shape,.pointer none,.pointer none] w (HighE msg shape w))
 (hpt:w3.heap[pt]? =some (.cells #[.string s] 9)) (hpo:w3.heap[po]? =some (.cells #[.slice none 0 0] 28)) (hps:w3.heap[ps]? =some (.cells #[.int .i64 shape] 55)) (hb:Below w.heap.size w w3) (hwp:w.heap.size≤po):
 Calls Tryz.prog 28 #[.func (.func 45) #[] #[.pointer (some ⟨pt,0,none⟩),.pointer (some ⟨ps,0,none⟩),.pointer (some ⟨po,0,none⟩)]] w3 (HlTry po msg shape w):=by
 have lt:=lt_of_blk hpt
 have lo:=lt_of_blk hpo
 have ls:=lt_of_blk hps
 have k1:(w3.alloc (.cells #[.bool false] 4)).heap[po]? =_:=(Below.heap_alloc _ _ _ lo).trans hpo
 refine(try_calls (R:=fun b w'=>HlR po (w3.heap.size+1) msg shape (w3.alloc (.cells #[.bool false] 4)) b w') (enter45 _ _ _) ((hlClo_calls (s:=s) (shape:=shape) (msg:=msg) (by rw[cell_blk ((Below.heap_alloc _ _ _ lt).trans hpt)];rfl) (by rw[cell_blk ((Below.heap_alloc _ _ _ ls).trans hps)];rfl) k1 h46).mono ?_)).mono ?_
 ·rintro e w' ⟨b,rfl,hr⟩
  have hr':HlR po (w3.heap.size+1) msg shape (w3.alloc (.cells #[.bool false] 4)) b w':=by simpa using hr
  refine⟨b,rfl,?_,hr'⟩
  obtain⟨_,l,i,g,c,_,_,_,_,hbut⟩:=hr
  exact(hbut.rest _ (by simp) (by omega)).trans (new_last rfl _)
 ·rintro e w'' ⟨b,w2,rfl,hr,rfl⟩
  obtain⟨rfl,l,i,g,c,hg,h1,h2,h3,hbut⟩:=hr
  refine⟨l,i,g,c,rfl,hg,h1.set_ne (by simp;omega) _,by omega,?_,?_⟩
  ·rw[Below.heap_setCell _ _ _ _ (by simp;omega)];exact h3
  ·have hz:=hb.size
   exact((hb.alloc hz _).trans (hbut.below.mono hwp)).setCell (by simpa using hz) _
def HlPost (msg:List Nat) (shape:Nat) (w:World) (e:Ending) (w':World):Prop:=
 ∃l i g cap,e= .returned (.tuple #[.slice (some ⟨g,0,none⟩) l.length cap,.bool true])∧HighG msg shape l i∧Ints w' g l∧Below w.heap.size w w'
set_option maxRecDepth 100000 in
set_option maxHeartbeats 2000000 in
theorem implHigh_calls {w:World} {s:ByteArray} {shape:Nat} {msg:List Nat} (hs:shape<3) (h46:∀w,Calls Tryz.prog 46 #[.string s,.int .i64 shape,.pointer none,.pointer none] w (HighE msg shape w)):
 Calls Tryz.prog 19 #[.string s,.int .i64 shape] w (HlPost msg shape w):=by
 have hmf:∀(fn:Fn) (first cap:Array Value) (w:World),(Instr.makeFunc fn first cap).run Tryz.prog w= .ok (.func fn first cap) w:=fun _ _ _ _=>rfl
 have b0:Below w.heap.size w ((w.alloc (.cells #[.string s] 9)).alloc (.cells #[.slice none 0 0] 28)):=((Below.refl _ _).alloc (Nat.le_refl _) _).alloc (by simp) _
 have c1:((w.alloc (.cells #[.string s] 9)).alloc (.cells #[.slice none 0 0] 28)).heap[w.heap.size]? =some (.cells #[.string s] 9):=(Below.heap_alloc _ _ _ (by simp)).trans (new_last rfl _)
 have c2:((w.alloc (.cells #[.string s] 9)).alloc (.cells #[.slice none 0 0] 28)).heap[w.heap.size+1]? =some (.cells #[.slice none 0 0] 28):=new_last (by simp) _
 have B0:=Lib.hid b0
 have C1:=Lib.hid c1
 have C2:=Lib.hid c2
 have H46:=Lib.hid h46
 clear b0 c1 c2 h46
 go_enter Tryz.func19,Tryz.ntmps19
 go_wp2_with (first
  |(go_at_call 27;refine(shapesOk_calls hs _).mono ?_;rintro e w1 ⟨rfl,hb⟩;have hz:=hb.size;simp only[alloc_heap,Array.size_push]at hz;have D1:=Lib.hid ((Below.heap_alloc w1 (.cells #[.int .i64 shape] 55) _ (by omega)).trans ((hb.block _ (by simp;omega)).trans C1.out));have D2:=Lib.hid ((Below.heap_alloc w1 (.cells #[.int .i64 shape] 55) _ (by omega)).trans ((hb.block _ (by simp)).trans C2.out));have DB:=Lib.hid ((B0.out.trans (hb.mono (by simp;omega))).alloc (by omega) (.cells #[.int .i64 shape] 55));clear hb)
  |(go_at_call 28;refine(hl_try (w:=w) (pt:=w.heap.size) (ps:=w1.heap.size) (po:=w.heap.size+1) H46.out D1.out D2.out (new_last rfl _) DB.out (by omega)).mono ?_;rintro e w4 ⟨l,i,g,cap,rfl,hg,hi,hpg,hpo,hb4⟩;have k:w4.cell? ⟨w.heap.size+1,0,none⟩=some (.slice (some ⟨g,0,none⟩) l.length cap):=(cell_blk hpo 0).trans rfl;have f:=frozen_blk hpo 0;have HPO:=Lib.hid hpo;have HI:=Lib.hid hi;have HG:=Lib.hid hg;have HB4:=Lib.hid hb4;clear hpo hi hb4 hg))
 have k2:(w4.setCell ⟨w.heap.size+1,0,none⟩ (.slice (some ⟨g,0,none⟩) l.length cap)).cell? ⟨w.heap.size+1,0,none⟩=some (.slice (some ⟨g,0,none⟩) l.length cap):=by rw[cell_blk (heap_setCell_at HPO.out 0 _)];rfl
 refine bodyPost_ret (v:= .tuple #[.slice (some ⟨g,0,none⟩) l.length cap,.bool true]) (by simp[results,Tryz.results19,go_sem,k2]) rfl ⟨l,i,g,cap,rfl,HG.out,HI.out.set_ne (by simp;omega) _,HB4.out.setCell (by simp) _⟩
end Go.Proofs.YtcnallabiffemaaGreatDoor
