/- The reference's corners. -/
import Derived.Test.YtcnallabiffemaaGreatDoorZl
set_option linter.unusedVariables false
set_option linter.unusedSimpArgs false
namespace Go.Proofs.YtcnallabiffemaaGreatDoor
section
open Go.RowKit
set_option maxRecDepth 100000 in
set_option maxHeartbeats 8000000 in
theorem shape1_calls {w0 w:World} {b bb rows cols:Nat} {bits:List Int} (h:SMem w0 w b bb rows cols bits) (pos:Nat) (hi:∀p∈coords rows cols (1,0,0),InR rows cols p) (hpos:pos≤4000):
 Calls Tryz.prog 99 #[.pointer (some ⟨b,0,none⟩),.int .i64 pos,.agg #[.int .i64 (-1),.int .i64 (0),.int .i64 (-1),.int .i64 (1),.int .i64 (-1),.int .i64 (2),.int .i64 (0),.int .i64 (-2),.int .i64 (0),.int .i64 (-1),.int .i64 (1),.int .i64 (-1),.int .i64 (2),.int .i64 (-1),.int .i64 (3),.int .i64 (-1)]] w (SSet w0 b bb rows cols (setLS rows cols pos 0 (coords rows cols (1,0,0)) bits)):=by
 have r0:=h.r0
 have r1:=h.r1
 have c0:=h.c0
 have c1:=h.c1
 have H:=Lib.hid (h.alloc (.cells #[.int .i64 (-1),.int .i64 (0),.int .i64 (-1),.int .i64 (1),.int .i64 (-1),.int .i64 (2),.int .i64 (0),.int .i64 (-2),.int .i64 (0),.int .i64 (-1),.int .i64 (1),.int .i64 (-1),.int .i64 (2),.int .i64 (-1),.int .i64 (3),.int .i64 (-1)] 134))
 have HI:=Lib.hid hi
 clear h hi
 go_enter Tryz.func99,Tryz.ntmps99
 go_wp2
 go_loopw [9] (fun i wr=>∃k:Nat,k≤8∧i= .int .i64 k∧Hid (SMem w0 wr b bb rows cols (setLS rows cols pos 0 ((coords rows cols (1,0,0)).take k) bits))) (fun i _=>8-(intOf i).toNat)
 case atStart=>exact⟨0,by omega,rfl,H.out⟩
 case round=>
  obtain⟨k,hk,rfl,hS⟩:=hrel
  obtain rfl|rfl|rfl|rfl|rfl|rfl|rfl|rfl|rfl:k=0∨k=1∨k=2∨k=3∨k=4∨k=5∨k=6∨k=7∨k=8:=by omega
  ·have ia:∀w,(Instr.index 134 (.agg #[.int .i64 (-1),.int .i64 (0),.int .i64 (-1),.int .i64 (1),.int .i64 (-1),.int .i64 (2),.int .i64 (0),.int .i64 (-2),.int .i64 (0),.int .i64 (-1),.int .i64 (1),.int .i64 (-1),.int .i64 (2),.int .i64 (-1),.int .i64 (3),.int .i64 (-1)]) (.int .i64 ((0:Nat):Int))).run Tryz.prog w= .ok (.agg #[.int .i64 (-1),.int .i64 (0)]) w:=fun _=>by kernel_rfl
   have ib:∀w,(Instr.index 134 (.agg #[.int .i64 (-1),.int .i64 (0),.int .i64 (-1),.int .i64 (1),.int .i64 (-1),.int .i64 (2),.int .i64 (0),.int .i64 (-2),.int .i64 (0),.int .i64 (-1),.int .i64 (1),.int .i64 (-1),.int .i64 (2),.int .i64 (-1),.int .i64 (3),.int .i64 (-1)]) (.int .i64 (0:Int))).run Tryz.prog w= .ok (.agg #[.int .i64 (-1),.int .i64 (0)]) w:=fun _=>by kernel_rfl
   have hlt:=hS.out.lb
   have hne:b≠wr.heap.size:=by omega
   have S0:=hS.out.alloc (.cells #[.int .i64 (-1),.int .i64 (0)] 133)
   have k0:=S0.k0
   have k1:=S0.k1
   have ff:=new_last (w:=wr) rfl (.cells #[.int .i64 (-1),.int .i64 (0)] 133)
   go_wp2
   have k0d:∀v:Value,((wr.alloc (.cells #[v,.int .i64 (0)] 133)).drew).cell? ⟨b,1,none⟩=some (.int .i64 cols):=fun v=>(hS.out.alloc _).k1
   go_region
   all_goals go_wp2_with (go_at_call 100;go_loud (refine(putAt (k:=0) (ps:=coords rows cols (1,0,0)) (((hS.out.alloc _).drew)) (by simp[coords]) rfl HI.out hpos _ _ (by refine Prod.ext ?_ ?_<;>simp[coords]<;>omega)).mono ?_;rintro e w' ⟨rfl,hp⟩))
   all_goals exact⟨⟨1,by omega,rfl,hp⟩,by simp[intOf]⟩
  ·have ia:∀w,(Instr.index 134 (.agg #[.int .i64 (-1),.int .i64 (0),.int .i64 (-1),.int .i64 (1),.int .i64 (-1),.int .i64 (2),.int .i64 (0),.int .i64 (-2),.int .i64 (0),.int .i64 (-1),.int .i64 (1),.int .i64 (-1),.int .i64 (2),.int .i64 (-1),.int .i64 (3),.int .i64 (-1)]) (.int .i64 ((1:Nat):Int))).run Tryz.prog w= .ok (.agg #[.int .i64 (-1),.int .i64 (1)]) w:=fun _=>by kernel_rfl
   have ib:∀w,(Instr.index 134 (.agg #[.int .i64 (-1),.int .i64 (0),.int .i64 (-1),.int .i64 (1),.int .i64 (-1),.int .i64 (2),.int .i64 (0),.int .i64 (-2),.int .i64 (0),.int .i64 (-1),.int .i64 (1),.int .i64 (-1),.int .i64 (2),.int .i64 (-1),.int .i64 (3),.int .i64 (-1)]) (.int .i64 (1:Int))).run Tryz.prog w= .ok (.agg #[.int .i64 (-1),.int .i64 (1)]) w:=fun _=>by kernel_rfl
   have hlt:=hS.out.lb
   have hne:b≠wr.heap.size:=by omega
   have S0:=hS.out.alloc (.cells #[.int .i64 (-1),.int .i64 (1)] 133)
   have k0:=S0.k0
   have k1:=S0.k1
   have ff:=new_last (w:=wr) rfl (.cells #[.int .i64 (-1),.int .i64 (1)] 133)
   go_wp2
   have k0d:∀v:Value,((wr.alloc (.cells #[v,.int .i64 (1)] 133)).drew).cell? ⟨b,1,none⟩=some (.int .i64 cols):=fun v=>(hS.out.alloc _).k1
   go_region
   all_goals go_wp2_with (go_at_call 100;go_loud (refine(putAt (k:=1) (ps:=coords rows cols (1,0,0)) (((hS.out.alloc _).drew)) (by simp[coords]) rfl HI.out hpos _ _ (by refine Prod.ext ?_ ?_<;>simp[coords]<;>omega)).mono ?_;rintro e w' ⟨rfl,hp⟩))
   all_goals exact⟨⟨2,by omega,rfl,hp⟩,by simp[intOf]⟩
  ·have ia:∀w,(Instr.index 134 (.agg #[.int .i64 (-1),.int .i64 (0),.int .i64 (-1),.int .i64 (1),.int .i64 (-1),.int .i64 (2),.int .i64 (0),.int .i64 (-2),.int .i64 (0),.int .i64 (-1),.int .i64 (1),.int .i64 (-1),.int .i64 (2),.int .i64 (-1),.int .i64 (3),.int .i64 (-1)]) (.int .i64 ((2:Nat):Int))).run Tryz.prog w= .ok (.agg #[.int .i64 (-1),.int .i64 (2)]) w:=fun _=>by kernel_rfl
   have ib:∀w,(Instr.index 134 (.agg #[.int .i64 (-1),.int .i64 (0),.int .i64 (-1),.int .i64 (1),.int .i64 (-1),.int .i64 (2),.int .i64 (0),.int .i64 (-2),.int .i64 (0),.int .i64 (-1),.int .i64 (1),.int .i64 (-1),.int .i64 (2),.int .i64 (-1),.int .i64 (3),.int .i64 (-1)]) (.int .i64 (2:Int))).run Tryz.prog w= .ok (.agg #[.int .i64 (-1),.int .i64 (2)]) w:=fun _=>by kernel_rfl
   have hlt:=hS.out.lb
   have hne:b≠wr.heap.size:=by omega
   have S0:=hS.out.alloc (.cells #[.int .i64 (-1),.int .i64 (2)] 133)
   have k0:=S0.k0
   have k1:=S0.k1
   have ff:=new_last (w:=wr) rfl (.cells #[.int .i64 (-1),.int .i64 (2)] 133)
   go_wp2
   have k0d:∀v:Value,((wr.alloc (.cells #[v,.int .i64 (2)] 133)).drew).cell? ⟨b,1,none⟩=some (.int .i64 cols):=fun v=>(hS.out.alloc _).k1
   go_region
   all_goals go_wp2_with (go_at_call 100;go_loud (refine(putAt (k:=2) (ps:=coords rows cols (1,0,0)) (((hS.out.alloc _).drew)) (by simp[coords]) rfl HI.out hpos _ _ (by refine Prod.ext ?_ ?_<;>simp[coords]<;>omega)).mono ?_;rintro e w' ⟨rfl,hp⟩))
   all_goals exact⟨⟨3,by omega,rfl,hp⟩,by simp[intOf]⟩
  ·have ia:∀w,(Instr.index 134 (.agg #[.int .i64 (-1),.int .i64 (0),.int .i64 (-1),.int .i64 (1),.int .i64 (-1),.int .i64 (2),.int .i64 (0),.int .i64 (-2),.int .i64 (0),.int .i64 (-1),.int .i64 (1),.int .i64 (-1),.int .i64 (2),.int .i64 (-1),.int .i64 (3),.int .i64 (-1)]) (.int .i64 ((3:Nat):Int))).run Tryz.prog w= .ok (.agg #[.int .i64 (0),.int .i64 (-2)]) w:=fun _=>by kernel_rfl
   have ib:∀w,(Instr.index 134 (.agg #[.int .i64 (-1),.int .i64 (0),.int .i64 (-1),.int .i64 (1),.int .i64 (-1),.int .i64 (2),.int .i64 (0),.int .i64 (-2),.int .i64 (0),.int .i64 (-1),.int .i64 (1),.int .i64 (-1),.int .i64 (2),.int .i64 (-1),.int .i64 (3),.int .i64 (-1)]) (.int .i64 (3:Int))).run Tryz.prog w= .ok (.agg #[.int .i64 (0),.int .i64 (-2)]) w:=fun _=>by kernel_rfl
   have hlt:=hS.out.lb
   have hne:b≠wr.heap.size:=by omega
   have S0:=hS.out.alloc (.cells #[.int .i64 (0),.int .i64 (-2)] 133)
   have k0:=S0.k0
   have k1:=S0.k1
   have ff:=new_last (w:=wr) rfl (.cells #[.int .i64 (0),.int .i64 (-2)] 133)
   go_wp2
   have k0d:∀v:Value,((wr.alloc (.cells #[v,.int .i64 (-2)] 133)).drew).cell? ⟨b,1,none⟩=some (.int .i64 cols):=fun v=>(hS.out.alloc _).k1
   go_region
   all_goals go_wp2_with (go_at_call 100;go_loud (refine(putAt (k:=3) (ps:=coords rows cols (1,0,0)) (((hS.out.alloc _).drew)) (by simp[coords]) rfl HI.out hpos _ _ (by refine Prod.ext ?_ ?_<;>simp[coords]<;>omega)).mono ?_;rintro e w' ⟨rfl,hp⟩))
   all_goals exact⟨⟨4,by omega,rfl,hp⟩,by simp[intOf]⟩
  ·have ia:∀w,(Instr.index 134 (.agg #[.int .i64 (-1),.int .i64 (0),.int .i64 (-1),.int .i64 (1),.int .i64 (-1),.int .i64 (2),.int .i64 (0),.int .i64 (-2),.int .i64 (0),.int .i64 (-1),.int .i64 (1),.int .i64 (-1),.int .i64 (2),.int .i64 (-1),.int .i64 (3),.int .i64 (-1)]) (.int .i64 ((4:Nat):Int))).run Tryz.prog w= .ok (.agg #[.int .i64 (0),.int .i64 (-1)]) w:=fun _=>by kernel_rfl
   have ib:∀w,(Instr.index 134 (.agg #[.int .i64 (-1),.int .i64 (0),.int .i64 (-1),.int .i64 (1),.int .i64 (-1),.int .i64 (2),.int .i64 (0),.int .i64 (-2),.int .i64 (0),.int .i64 (-1),.int .i64 (1),.int .i64 (-1),.int .i64 (2),.int .i64 (-1),.int .i64 (3),.int .i64 (-1)]) (.int .i64 (4:Int))).run Tryz.prog w= .ok (.agg #[.int .i64 (0),.int .i64 (-1)]) w:=fun _=>by kernel_rfl
   have hlt:=hS.out.lb
   have hne:b≠wr.heap.size:=by omega
   have S0:=hS.out.alloc (.cells #[.int .i64 (0),.int .i64 (-1)] 133)
   have k0:=S0.k0
   have k1:=S0.k1
   have ff:=new_last (w:=wr) rfl (.cells #[.int .i64 (0),.int .i64 (-1)] 133)
   go_wp2
   have k0d:∀v:Value,((wr.alloc (.cells #[v,.int .i64 (-1)] 133)).drew).cell? ⟨b,1,none⟩=some (.int .i64 cols):=fun v=>(hS.out.alloc _).k1
   go_region
   all_goals go_wp2_with (go_at_call 100;go_loud (refine(putAt (k:=4) (ps:=coords rows cols (1,0,0)) (((hS.out.alloc _).drew)) (by simp[coords]) rfl HI.out hpos _ _ (by refine Prod.ext ?_ ?_<;>simp[coords]<;>omega)).mono ?_;rintro e w' ⟨rfl,hp⟩))
   all_goals exact⟨⟨5,by omega,rfl,hp⟩,by simp[intOf]⟩
  ·have ia:∀w,(Instr.index 134 (.agg #[.int .i64 (-1),.int .i64 (0),.int .i64 (-1),.int .i64 (1),.int .i64 (-1),.int .i64 (2),.int .i64 (0),.int .i64 (-2),.int .i64 (0),.int .i64 (-1),.int .i64 (1),.int .i64 (-1),.int .i64 (2),.int .i64 (-1),.int .i64 (3),.int .i64 (-1)]) (.int .i64 ((5:Nat):Int))).run Tryz.prog w= .ok (.agg #[.int .i64 (1),.int .i64 (-1)]) w:=fun _=>by kernel_rfl
   have ib:∀w,(Instr.index 134 (.agg #[.int .i64 (-1),.int .i64 (0),.int .i64 (-1),.int .i64 (1),.int .i64 (-1),.int .i64 (2),.int .i64 (0),.int .i64 (-2),.int .i64 (0),.int .i64 (-1),.int .i64 (1),.int .i64 (-1),.int .i64 (2),.int .i64 (-1),.int .i64 (3),.int .i64 (-1)]) (.int .i64 (5:Int))).run Tryz.prog w= .ok (.agg #[.int .i64 (1),.int .i64 (-1)]) w:=fun _=>by kernel_rfl
   have hlt:=hS.out.lb
   have hne:b≠wr.heap.size:=by omega
   have S0:=hS.out.alloc (.cells #[.int .i64 (1),.int .i64 (-1)] 133)
   have k0:=S0.k0
   have k1:=S0.k1
   have ff:=new_last (w:=wr) rfl (.cells #[.int .i64 (1),.int .i64 (-1)] 133)
   go_wp2
   have k0d:∀v:Value,((wr.alloc (.cells #[v,.int .i64 (-1)] 133)).drew).cell? ⟨b,1,none⟩=some (.int .i64 cols):=fun v=>(hS.out.alloc _).k1
   go_region
   all_goals go_wp2_with (go_at_call 100;go_loud (refine(putAt (k:=5) (ps:=coords rows cols (1,0,0)) (((hS.out.alloc _).drew)) (by simp[coords]) rfl HI.out hpos _ _ (by refine Prod.ext ?_ ?_<;>simp[coords]<;>omega)).mono ?_;rintro e w' ⟨rfl,hp⟩))
   all_goals exact⟨⟨6,by omega,rfl,hp⟩,by simp[intOf]⟩
  ·have ia:∀w,(Instr.index 134 (.agg #[.int .i64 (-1),.int .i64 (0),.int .i64 (-1),.int .i64 (1),.int .i64 (-1),.int .i64 (2),.int .i64 (0),.int .i64 (-2),.int .i64 (0),.int .i64 (-1),.int .i64 (1),.int .i64 (-1),.int .i64 (2),.int .i64 (-1),.int .i64 (3),.int .i64 (-1)]) (.int .i64 ((6:Nat):Int))).run Tryz.prog w= .ok (.agg #[.int .i64 (2),.int .i64 (-1)]) w:=fun _=>by kernel_rfl
   have ib:∀w,(Instr.index 134 (.agg #[.int .i64 (-1),.int .i64 (0),.int .i64 (-1),.int .i64 (1),.int .i64 (-1),.int .i64 (2),.int .i64 (0),.int .i64 (-2),.int .i64 (0),.int .i64 (-1),.int .i64 (1),.int .i64 (-1),.int .i64 (2),.int .i64 (-1),.int .i64 (3),.int .i64 (-1)]) (.int .i64 (6:Int))).run Tryz.prog w= .ok (.agg #[.int .i64 (2),.int .i64 (-1)]) w:=fun _=>by kernel_rfl
   have hlt:=hS.out.lb
   have hne:b≠wr.heap.size:=by omega
   have S0:=hS.out.alloc (.cells #[.int .i64 (2),.int .i64 (-1)] 133)
   have k0:=S0.k0
   have k1:=S0.k1
   have ff:=new_last (w:=wr) rfl (.cells #[.int .i64 (2),.int .i64 (-1)] 133)
   go_wp2
   have k0d:∀v:Value,((wr.alloc (.cells #[v,.int .i64 (-1)] 133)).drew).cell? ⟨b,1,none⟩=some (.int .i64 cols):=fun v=>(hS.out.alloc _).k1
   go_region
   all_goals go_wp2_with (go_at_call 100;go_loud (refine(putAt (k:=6) (ps:=coords rows cols (1,0,0)) (((hS.out.alloc _).drew)) (by simp[coords]) rfl HI.out hpos _ _ (by refine Prod.ext ?_ ?_<;>simp[coords]<;>omega)).mono ?_;rintro e w' ⟨rfl,hp⟩))
   all_goals exact⟨⟨7,by omega,rfl,hp⟩,by simp[intOf]⟩
  ·have ia:∀w,(Instr.index 134 (.agg #[.int .i64 (-1),.int .i64 (0),.int .i64 (-1),.int .i64 (1),.int .i64 (-1),.int .i64 (2),.int .i64 (0),.int .i64 (-2),.int .i64 (0),.int .i64 (-1),.int .i64 (1),.int .i64 (-1),.int .i64 (2),.int .i64 (-1),.int .i64 (3),.int .i64 (-1)]) (.int .i64 ((7:Nat):Int))).run Tryz.prog w= .ok (.agg #[.int .i64 (3),.int .i64 (-1)]) w:=fun _=>by kernel_rfl
   have ib:∀w,(Instr.index 134 (.agg #[.int .i64 (-1),.int .i64 (0),.int .i64 (-1),.int .i64 (1),.int .i64 (-1),.int .i64 (2),.int .i64 (0),.int .i64 (-2),.int .i64 (0),.int .i64 (-1),.int .i64 (1),.int .i64 (-1),.int .i64 (2),.int .i64 (-1),.int .i64 (3),.int .i64 (-1)]) (.int .i64 (7:Int))).run Tryz.prog w= .ok (.agg #[.int .i64 (3),.int .i64 (-1)]) w:=fun _=>by kernel_rfl
   have hlt:=hS.out.lb
   have hne:b≠wr.heap.size:=by omega
   have S0:=hS.out.alloc (.cells #[.int .i64 (3),.int .i64 (-1)] 133)
   have k0:=S0.k0
   have k1:=S0.k1
   have ff:=new_last (w:=wr) rfl (.cells #[.int .i64 (3),.int .i64 (-1)] 133)
   go_wp2
   have k0d:∀v:Value,((wr.alloc (.cells #[v,.int .i64 (-1)] 133)).drew).cell? ⟨b,1,none⟩=some (.int .i64 cols):=fun v=>(hS.out.alloc _).k1
   go_region
   all_goals go_wp2_with (go_at_call 100;go_loud (refine(putAt (k:=7) (ps:=coords rows cols (1,0,0)) (((hS.out.alloc _).drew)) (by simp[coords]) rfl HI.out hpos _ _ (by refine Prod.ext ?_ ?_<;>simp[coords]<;>omega)).mono ?_;rintro e w' ⟨rfl,hp⟩))
   all_goals exact⟨⟨8,by omega,rfl,hp⟩,by simp[intOf]⟩
  ·go_wp2
   go_end0
   exact⟨rfl,hS.out⟩
set_option maxRecDepth 100000 in
set_option maxHeartbeats 8000000 in
theorem shape2_calls {w0 w:World} {b bb rows cols:Nat} {bits:List Int} (h:SMem w0 w b bb rows cols bits) (pos:Nat) (hi:∀p∈coords rows cols (2,0,0),InR rows cols p) (hpos:pos≤4000):
 Calls Tryz.prog 99 #[.pointer (some ⟨b,0,none⟩),.int .i64 pos,.agg #[.int .i64 (-3),.int .i64 (0),.int .i64 (-2),.int .i64 (0),.int .i64 (-1),.int .i64 (0),.int .i64 (0),.int .i64 (-4),.int .i64 (0),.int .i64 (-3),.int .i64 (0),.int .i64 (-2),.int .i64 (0),.int .i64 (-1),.int .i64 (1),.int .i64 (-1)]] w (SSet w0 b bb rows cols (setLS rows cols pos 0 (coords rows cols (2,0,0)) bits)):=by
 have r0:=h.r0
 have r1:=h.r1
 have c0:=h.c0
 have c1:=h.c1
 have H:=Lib.hid (h.alloc (.cells #[.int .i64 (-3),.int .i64 (0),.int .i64 (-2),.int .i64 (0),.int .i64 (-1),.int .i64 (0),.int .i64 (0),.int .i64 (-4),.int .i64 (0),.int .i64 (-3),.int .i64 (0),.int .i64 (-2),.int .i64 (0),.int .i64 (-1),.int .i64 (1),.int .i64 (-1)] 134))
 have HI:=Lib.hid hi
 clear h hi
 go_enter Tryz.func99,Tryz.ntmps99
 go_wp2
 go_loopw [9] (fun i wr=>∃k:Nat,k≤8∧i= .int .i64 k∧Hid (SMem w0 wr b bb rows cols (setLS rows cols pos 0 ((coords rows cols (2,0,0)).take k) bits))) (fun i _=>8-(intOf i).toNat)
 case atStart=>exact⟨0,by omega,rfl,H.out⟩
 case round=>
  obtain⟨k,hk,rfl,hS⟩:=hrel
  obtain rfl|rfl|rfl|rfl|rfl|rfl|rfl|rfl|rfl:k=0∨k=1∨k=2∨k=3∨k=4∨k=5∨k=6∨k=7∨k=8:=by omega
  ·have ia:∀w,(Instr.index 134 (.agg #[.int .i64 (-3),.int .i64 (0),.int .i64 (-2),.int .i64 (0),.int .i64 (-1),.int .i64 (0),.int .i64 (0),.int .i64 (-4),.int .i64 (0),.int .i64 (-3),.int .i64 (0),.int .i64 (-2),.int .i64 (0),.int .i64 (-1),.int .i64 (1),.int .i64 (-1)]) (.int .i64 ((0:Nat):Int))).run Tryz.prog w= .ok (.agg #[.int .i64 (-3),.int .i64 (0)]) w:=fun _=>by kernel_rfl
   have ib:∀w,(Instr.index 134 (.agg #[.int .i64 (-3),.int .i64 (0),.int .i64 (-2),.int .i64 (0),.int .i64 (-1),.int .i64 (0),.int .i64 (0),.int .i64 (-4),.int .i64 (0),.int .i64 (-3),.int .i64 (0),.int .i64 (-2),.int .i64 (0),.int .i64 (-1),.int .i64 (1),.int .i64 (-1)]) (.int .i64 (0:Int))).run Tryz.prog w= .ok (.agg #[.int .i64 (-3),.int .i64 (0)]) w:=fun _=>by kernel_rfl
   have hlt:=hS.out.lb
   have hne:b≠wr.heap.size:=by omega
   have S0:=hS.out.alloc (.cells #[.int .i64 (-3),.int .i64 (0)] 133)
   have k0:=S0.k0
   have k1:=S0.k1
   have ff:=new_last (w:=wr) rfl (.cells #[.int .i64 (-3),.int .i64 (0)] 133)
   go_wp2
   have k0d:∀v:Value,((wr.alloc (.cells #[v,.int .i64 (0)] 133)).drew).cell? ⟨b,1,none⟩=some (.int .i64 cols):=fun v=>(hS.out.alloc _).k1
   go_region
   all_goals go_wp2_with (go_at_call 100;go_loud (refine(putAt (k:=0) (ps:=coords rows cols (2,0,0)) (((hS.out.alloc _).drew)) (by simp[coords]) rfl HI.out hpos _ _ (by refine Prod.ext ?_ ?_<;>simp[coords]<;>omega)).mono ?_;rintro e w' ⟨rfl,hp⟩))
   all_goals exact⟨⟨1,by omega,rfl,hp⟩,by simp[intOf]⟩
  ·have ia:∀w,(Instr.index 134 (.agg #[.int .i64 (-3),.int .i64 (0),.int .i64 (-2),.int .i64 (0),.int .i64 (-1),.int .i64 (0),.int .i64 (0),.int .i64 (-4),.int .i64 (0),.int .i64 (-3),.int .i64 (0),.int .i64 (-2),.int .i64 (0),.int .i64 (-1),.int .i64 (1),.int .i64 (-1)]) (.int .i64 ((1:Nat):Int))).run Tryz.prog w= .ok (.agg #[.int .i64 (-2),.int .i64 (0)]) w:=fun _=>by kernel_rfl
   have ib:∀w,(Instr.index 134 (.agg #[.int .i64 (-3),.int .i64 (0),.int .i64 (-2),.int .i64 (0),.int .i64 (-1),.int .i64 (0),.int .i64 (0),.int .i64 (-4),.int .i64 (0),.int .i64 (-3),.int .i64 (0),.int .i64 (-2),.int .i64 (0),.int .i64 (-1),.int .i64 (1),.int .i64 (-1)]) (.int .i64 (1:Int))).run Tryz.prog w= .ok (.agg #[.int .i64 (-2),.int .i64 (0)]) w:=fun _=>by kernel_rfl
   have hlt:=hS.out.lb
   have hne:b≠wr.heap.size:=by omega
   have S0:=hS.out.alloc (.cells #[.int .i64 (-2),.int .i64 (0)] 133)
   have k0:=S0.k0
   have k1:=S0.k1
   have ff:=new_last (w:=wr) rfl (.cells #[.int .i64 (-2),.int .i64 (0)] 133)
   go_wp2
   have k0d:∀v:Value,((wr.alloc (.cells #[v,.int .i64 (0)] 133)).drew).cell? ⟨b,1,none⟩=some (.int .i64 cols):=fun v=>(hS.out.alloc _).k1
   go_region
   all_goals go_wp2_with (go_at_call 100;go_loud (refine(putAt (k:=1) (ps:=coords rows cols (2,0,0)) (((hS.out.alloc _).drew)) (by simp[coords]) rfl HI.out hpos _ _ (by refine Prod.ext ?_ ?_<;>simp[coords]<;>omega)).mono ?_;rintro e w' ⟨rfl,hp⟩))
   all_goals exact⟨⟨2,by omega,rfl,hp⟩,by simp[intOf]⟩
  ·have ia:∀w,(Instr.index 134 (.agg #[.int .i64 (-3),.int .i64 (0),.int .i64 (-2),.int .i64 (0),.int .i64 (-1),.int .i64 (0),.int .i64 (0),.int .i64 (-4),.int .i64 (0),.int .i64 (-3),.int .i64 (0),.int .i64 (-2),.int .i64 (0),.int .i64 (-1),.int .i64 (1),.int .i64 (-1)]) (.int .i64 ((2:Nat):Int))).run Tryz.prog w= .ok (.agg #[.int .i64 (-1),.int .i64 (0)]) w:=fun _=>by kernel_rfl
   have ib:∀w,(Instr.index 134 (.agg #[.int .i64 (-3),.int .i64 (0),.int .i64 (-2),.int .i64 (0),.int .i64 (-1),.int .i64 (0),.int .i64 (0),.int .i64 (-4),.int .i64 (0),.int .i64 (-3),.int .i64 (0),.int .i64 (-2),.int .i64 (0),.int .i64 (-1),.int .i64 (1),.int .i64 (-1)]) (.int .i64 (2:Int))).run Tryz.prog w= .ok (.agg #[.int .i64 (-1),.int .i64 (0)]) w:=fun _=>by kernel_rfl
   have hlt:=hS.out.lb
   have hne:b≠wr.heap.size:=by omega
   have S0:=hS.out.alloc (.cells #[.int .i64 (-1),.int .i64 (0)] 133)
   have k0:=S0.k0
   have k1:=S0.k1
   have ff:=new_last (w:=wr) rfl (.cells #[.int .i64 (-1),.int .i64 (0)] 133)
   go_wp2
   have k0d:∀v:Value,((wr.alloc (.cells #[v,.int .i64 (0)] 133)).drew).cell? ⟨b,1,none⟩=some (.int .i64 cols):=fun v=>(hS.out.alloc _).k1
   go_region
   all_goals go_wp2_with (go_at_call 100;go_loud (refine(putAt (k:=2) (ps:=coords rows cols (2,0,0)) (((hS.out.alloc _).drew)) (by simp[coords]) rfl HI.out hpos _ _ (by refine Prod.ext ?_ ?_<;>simp[coords]<;>omega)).mono ?_;rintro e w' ⟨rfl,hp⟩))
   all_goals exact⟨⟨3,by omega,rfl,hp⟩,by simp[intOf]⟩
  ·have ia:∀w,(Instr.index 134 (.agg #[.int .i64 (-3),.int .i64 (0),.int .i64 (-2),.int .i64 (0),.int .i64 (-1),.int .i64 (0),.int .i64 (0),.int .i64 (-4),.int .i64 (0),.int .i64 (-3),.int .i64 (0),.int .i64 (-2),.int .i64 (0),.int .i64 (-1),.int .i64 (1),.int .i64 (-1)]) (.int .i64 ((3:Nat):Int))).run Tryz.prog w= .ok (.agg #[.int .i64 (0),.int .i64 (-4)]) w:=fun _=>by kernel_rfl
   have ib:∀w,(Instr.index 134 (.agg #[.int .i64 (-3),.int .i64 (0),.int .i64 (-2),.int .i64 (0),.int .i64 (-1),.int .i64 (0),.int .i64 (0),.int .i64 (-4),.int .i64 (0),.int .i64 (-3),.int .i64 (0),.int .i64 (-2),.int .i64 (0),.int .i64 (-1),.int .i64 (1),.int .i64 (-1)]) (.int .i64 (3:Int))).run Tryz.prog w= .ok (.agg #[.int .i64 (0),.int .i64 (-4)]) w:=fun _=>by kernel_rfl
   have hlt:=hS.out.lb
   have hne:b≠wr.heap.size:=by omega
   have S0:=hS.out.alloc (.cells #[.int .i64 (0),.int .i64 (-4)] 133)
   have k0:=S0.k0
   have k1:=S0.k1
   have ff:=new_last (w:=wr) rfl (.cells #[.int .i64 (0),.int .i64 (-4)] 133)
   go_wp2
   have k0d:∀v:Value,((wr.alloc (.cells #[v,.int .i64 (-4)] 133)).drew).cell? ⟨b,1,none⟩=some (.int .i64 cols):=fun v=>(hS.out.alloc _).k1
   go_region
   all_goals go_wp2_with (go_at_call 100;go_loud (refine(putAt (k:=3) (ps:=coords rows cols (2,0,0)) (((hS.out.alloc _).drew)) (by simp[coords]) rfl HI.out hpos _ _ (by refine Prod.ext ?_ ?_<;>simp[coords]<;>omega)).mono ?_;rintro e w' ⟨rfl,hp⟩))
   all_goals exact⟨⟨4,by omega,rfl,hp⟩,by simp[intOf]⟩
  ·have ia:∀w,(Instr.index 134 (.agg #[.int .i64 (-3),.int .i64 (0),.int .i64 (-2),.int .i64 (0),.int .i64 (-1),.int .i64 (0),.int .i64 (0),.int .i64 (-4),.int .i64 (0),.int .i64 (-3),.int .i64 (0),.int .i64 (-2),.int .i64 (0),.int .i64 (-1),.int .i64 (1),.int .i64 (-1)]) (.int .i64 ((4:Nat):Int))).run Tryz.prog w= .ok (.agg #[.int .i64 (0),.int .i64 (-3)]) w:=fun _=>by kernel_rfl
   have ib:∀w,(Instr.index 134 (.agg #[.int .i64 (-3),.int .i64 (0),.int .i64 (-2),.int .i64 (0),.int .i64 (-1),.int .i64 (0),.int .i64 (0),.int .i64 (-4),.int .i64 (0),.int .i64 (-3),.int .i64 (0),.int .i64 (-2),.int .i64 (0),.int .i64 (-1),.int .i64 (1),.int .i64 (-1)]) (.int .i64 (4:Int))).run Tryz.prog w= .ok (.agg #[.int .i64 (0),.int .i64 (-3)]) w:=fun _=>by kernel_rfl
   have hlt:=hS.out.lb
   have hne:b≠wr.heap.size:=by omega
   have S0:=hS.out.alloc (.cells #[.int .i64 (0),.int .i64 (-3)] 133)
   have k0:=S0.k0
   have k1:=S0.k1
   have ff:=new_last (w:=wr) rfl (.cells #[.int .i64 (0),.int .i64 (-3)] 133)
   go_wp2
   have k0d:∀v:Value,((wr.alloc (.cells #[v,.int .i64 (-3)] 133)).drew).cell? ⟨b,1,none⟩=some (.int .i64 cols):=fun v=>(hS.out.alloc _).k1
   go_region
   all_goals go_wp2_with (go_at_call 100;go_loud (refine(putAt (k:=4) (ps:=coords rows cols (2,0,0)) (((hS.out.alloc _).drew)) (by simp[coords]) rfl HI.out hpos _ _ (by refine Prod.ext ?_ ?_<;>simp[coords]<;>omega)).mono ?_;rintro e w' ⟨rfl,hp⟩))
   all_goals exact⟨⟨5,by omega,rfl,hp⟩,by simp[intOf]⟩
  ·have ia:∀w,(Instr.index 134 (.agg #[.int .i64 (-3),.int .i64 (0),.int .i64 (-2),.int .i64 (0),.int .i64 (-1),.int .i64 (0),.int .i64 (0),.int .i64 (-4),.int .i64 (0),.int .i64 (-3),.int .i64 (0),.int .i64 (-2),.int .i64 (0),.int .i64 (-1),.int .i64 (1),.int .i64 (-1)]) (.int .i64 ((5:Nat):Int))).run Tryz.prog w= .ok (.agg #[.int .i64 (0),.int .i64 (-2)]) w:=fun _=>by kernel_rfl
   have ib:∀w,(Instr.index 134 (.agg #[.int .i64 (-3),.int .i64 (0),.int .i64 (-2),.int .i64 (0),.int .i64 (-1),.int .i64 (0),.int .i64 (0),.int .i64 (-4),.int .i64 (0),.int .i64 (-3),.int .i64 (0),.int .i64 (-2),.int .i64 (0),.int .i64 (-1),.int .i64 (1),.int .i64 (-1)]) (.int .i64 (5:Int))).run Tryz.prog w= .ok (.agg #[.int .i64 (0),.int .i64 (-2)]) w:=fun _=>by kernel_rfl
   have hlt:=hS.out.lb
   have hne:b≠wr.heap.size:=by omega
   have S0:=hS.out.alloc (.cells #[.int .i64 (0),.int .i64 (-2)] 133)
   have k0:=S0.k0
   have k1:=S0.k1
   have ff:=new_last (w:=wr) rfl (.cells #[.int .i64 (0),.int .i64 (-2)] 133)
   go_wp2
   have k0d:∀v:Value,((wr.alloc (.cells #[v,.int .i64 (-2)] 133)).drew).cell? ⟨b,1,none⟩=some (.int .i64 cols):=fun v=>(hS.out.alloc _).k1
   go_region
   all_goals go_wp2_with (go_at_call 100;go_loud (refine(putAt (k:=5) (ps:=coords rows cols (2,0,0)) (((hS.out.alloc _).drew)) (by simp[coords]) rfl HI.out hpos _ _ (by refine Prod.ext ?_ ?_<;>simp[coords]<;>omega)).mono ?_;rintro e w' ⟨rfl,hp⟩))
   all_goals exact⟨⟨6,by omega,rfl,hp⟩,by simp[intOf]⟩
  ·have ia:∀w,(Instr.index 134 (.agg #[.int .i64 (-3),.int .i64 (0),.int .i64 (-2),.int .i64 (0),.int .i64 (-1),.int .i64 (0),.int .i64 (0),.int .i64 (-4),.int .i64 (0),.int .i64 (-3),.int .i64 (0),.int .i64 (-2),.int .i64 (0),.int .i64 (-1),.int .i64 (1),.int .i64 (-1)]) (.int .i64 ((6:Nat):Int))).run Tryz.prog w= .ok (.agg #[.int .i64 (0),.int .i64 (-1)]) w:=fun _=>by kernel_rfl
   have ib:∀w,(Instr.index 134 (.agg #[.int .i64 (-3),.int .i64 (0),.int .i64 (-2),.int .i64 (0),.int .i64 (-1),.int .i64 (0),.int .i64 (0),.int .i64 (-4),.int .i64 (0),.int .i64 (-3),.int .i64 (0),.int .i64 (-2),.int .i64 (0),.int .i64 (-1),.int .i64 (1),.int .i64 (-1)]) (.int .i64 (6:Int))).run Tryz.prog w= .ok (.agg #[.int .i64 (0),.int .i64 (-1)]) w:=fun _=>by kernel_rfl
   have hlt:=hS.out.lb
   have hne:b≠wr.heap.size:=by omega
   have S0:=hS.out.alloc (.cells #[.int .i64 (0),.int .i64 (-1)] 133)
   have k0:=S0.k0
   have k1:=S0.k1
   have ff:=new_last (w:=wr) rfl (.cells #[.int .i64 (0),.int .i64 (-1)] 133)
   go_wp2
   have k0d:∀v:Value,((wr.alloc (.cells #[v,.int .i64 (-1)] 133)).drew).cell? ⟨b,1,none⟩=some (.int .i64 cols):=fun v=>(hS.out.alloc _).k1
   go_region
   all_goals go_wp2_with (go_at_call 100;go_loud (refine(putAt (k:=6) (ps:=coords rows cols (2,0,0)) (((hS.out.alloc _).drew)) (by simp[coords]) rfl HI.out hpos _ _ (by refine Prod.ext ?_ ?_<;>simp[coords]<;>omega)).mono ?_;rintro e w' ⟨rfl,hp⟩))
   all_goals exact⟨⟨7,by omega,rfl,hp⟩,by simp[intOf]⟩
  ·have ia:∀w,(Instr.index 134 (.agg #[.int .i64 (-3),.int .i64 (0),.int .i64 (-2),.int .i64 (0),.int .i64 (-1),.int .i64 (0),.int .i64 (0),.int .i64 (-4),.int .i64 (0),.int .i64 (-3),.int .i64 (0),.int .i64 (-2),.int .i64 (0),.int .i64 (-1),.int .i64 (1),.int .i64 (-1)]) (.int .i64 ((7:Nat):Int))).run Tryz.prog w= .ok (.agg #[.int .i64 (1),.int .i64 (-1)]) w:=fun _=>by kernel_rfl
   have ib:∀w,(Instr.index 134 (.agg #[.int .i64 (-3),.int .i64 (0),.int .i64 (-2),.int .i64 (0),.int .i64 (-1),.int .i64 (0),.int .i64 (0),.int .i64 (-4),.int .i64 (0),.int .i64 (-3),.int .i64 (0),.int .i64 (-2),.int .i64 (0),.int .i64 (-1),.int .i64 (1),.int .i64 (-1)]) (.int .i64 (7:Int))).run Tryz.prog w= .ok (.agg #[.int .i64 (1),.int .i64 (-1)]) w:=fun _=>by kernel_rfl
   have hlt:=hS.out.lb
   have hne:b≠wr.heap.size:=by omega
   have S0:=hS.out.alloc (.cells #[.int .i64 (1),.int .i64 (-1)] 133)
   have k0:=S0.k0
   have k1:=S0.k1
   have ff:=new_last (w:=wr) rfl (.cells #[.int .i64 (1),.int .i64 (-1)] 133)
   go_wp2
   have k0d:∀v:Value,((wr.alloc (.cells #[v,.int .i64 (-1)] 133)).drew).cell? ⟨b,1,none⟩=some (.int .i64 cols):=fun v=>(hS.out.alloc _).k1
   go_region
   all_goals go_wp2_with (go_at_call 100;go_loud (refine(putAt (k:=7) (ps:=coords rows cols (2,0,0)) (((hS.out.alloc _).drew)) (by simp[coords]) rfl HI.out hpos _ _ (by refine Prod.ext ?_ ?_<;>simp[coords]<;>omega)).mono ?_;rintro e w' ⟨rfl,hp⟩))
   all_goals exact⟨⟨8,by omega,rfl,hp⟩,by simp[intOf]⟩
  ·go_wp2
   go_end0
   exact⟨rfl,hS.out⟩
set_option maxRecDepth 100000 in
set_option maxHeartbeats 8000000 in
theorem shape3_calls {w0 w:World} {b bb rows cols:Nat} {bits:List Int} (h:SMem w0 w b bb rows cols bits) (pos:Nat) (hi:∀p∈coords rows cols (3,0,0),InR rows cols p) (hpos:pos≤4000):
 Calls Tryz.prog 99 #[.pointer (some ⟨b,0,none⟩),.int .i64 pos,.agg #[.int .i64 (-3),.int .i64 (0),.int .i64 (-2),.int .i64 (0),.int .i64 (-1),.int .i64 (0),.int .i64 (0),.int .i64 (-2),.int .i64 (0),.int .i64 (-1),.int .i64 (1),.int .i64 (-1),.int .i64 (2),.int .i64 (-1),.int .i64 (3),.int .i64 (-1)]] w (SSet w0 b bb rows cols (setLS rows cols pos 0 (coords rows cols (3,0,0)) bits)):=by
 have r0:=h.r0
 have r1:=h.r1
 have c0:=h.c0
 have c1:=h.c1
 have H:=Lib.hid (h.alloc (.cells #[.int .i64 (-3),.int .i64 (0),.int .i64 (-2),.int .i64 (0),.int .i64 (-1),.int .i64 (0),.int .i64 (0),.int .i64 (-2),.int .i64 (0),.int .i64 (-1),.int .i64 (1),.int .i64 (-1),.int .i64 (2),.int .i64 (-1),.int .i64 (3),.int .i64 (-1)] 134))
 have HI:=Lib.hid hi
 clear h hi
 go_enter Tryz.func99,Tryz.ntmps99
 go_wp2
 go_loopw [9] (fun i wr=>∃k:Nat,k≤8∧i= .int .i64 k∧Hid (SMem w0 wr b bb rows cols (setLS rows cols pos 0 ((coords rows cols (3,0,0)).take k) bits))) (fun i _=>8-(intOf i).toNat)
 case atStart=>exact⟨0,by omega,rfl,H.out⟩
 case round=>
  obtain⟨k,hk,rfl,hS⟩:=hrel
  obtain rfl|rfl|rfl|rfl|rfl|rfl|rfl|rfl|rfl:k=0∨k=1∨k=2∨k=3∨k=4∨k=5∨k=6∨k=7∨k=8:=by omega
  ·have ia:∀w,(Instr.index 134 (.agg #[.int .i64 (-3),.int .i64 (0),.int .i64 (-2),.int .i64 (0),.int .i64 (-1),.int .i64 (0),.int .i64 (0),.int .i64 (-2),.int .i64 (0),.int .i64 (-1),.int .i64 (1),.int .i64 (-1),.int .i64 (2),.int .i64 (-1),.int .i64 (3),.int .i64 (-1)]) (.int .i64 ((0:Nat):Int))).run Tryz.prog w= .ok (.agg #[.int .i64 (-3),.int .i64 (0)]) w:=fun _=>by kernel_rfl
   have ib:∀w,(Instr.index 134 (.agg #[.int .i64 (-3),.int .i64 (0),.int .i64 (-2),.int .i64 (0),.int .i64 (-1),.int .i64 (0),.int .i64 (0),.int .i64 (-2),.int .i64 (0),.int .i64 (-1),.int .i64 (1),.int .i64 (-1),.int .i64 (2),.int .i64 (-1),.int .i64 (3),.int .i64 (-1)]) (.int .i64 (0:Int))).run Tryz.prog w= .ok (.agg #[.int .i64 (-3),.int .i64 (0)]) w:=fun _=>by kernel_rfl
   have hlt:=hS.out.lb
   have hne:b≠wr.heap.size:=by omega
   have S0:=hS.out.alloc (.cells #[.int .i64 (-3),.int .i64 (0)] 133)
   have k0:=S0.k0
   have k1:=S0.k1
   have ff:=new_last (w:=wr) rfl (.cells #[.int .i64 (-3),.int .i64 (0)] 133)
   go_wp2
   have k0d:∀v:Value,((wr.alloc (.cells #[v,.int .i64 (0)] 133)).drew).cell? ⟨b,1,none⟩=some (.int .i64 cols):=fun v=>(hS.out.alloc _).k1
   go_region
   all_goals go_wp2_with (go_at_call 100;go_loud (refine(putAt (k:=0) (ps:=coords rows cols (3,0,0)) (((hS.out.alloc _).drew)) (by simp[coords]) rfl HI.out hpos _ _ (by refine Prod.ext ?_ ?_<;>simp[coords]<;>omega)).mono ?_;rintro e w' ⟨rfl,hp⟩))
   all_goals exact⟨⟨1,by omega,rfl,hp⟩,by simp[intOf]⟩
  ·have ia:∀w,(Instr.index 134 (.agg #[.int .i64 (-3),.int .i64 (0),.int .i64 (-2),.int .i64 (0),.int .i64 (-1),.int .i64 (0),.int .i64 (0),.int .i64 (-2),.int .i64 (0),.int .i64 (-1),.int .i64 (1),.int .i64 (-1),.int .i64 (2),.int .i64 (-1),.int .i64 (3),.int .i64 (-1)]) (.int .i64 ((1:Nat):Int))).run Tryz.prog w= .ok (.agg #[.int .i64 (-2),.int .i64 (0)]) w:=fun _=>by kernel_rfl
   have ib:∀w,(Instr.index 134 (.agg #[.int .i64 (-3),.int .i64 (0),.int .i64 (-2),.int .i64 (0),.int .i64 (-1),.int .i64 (0),.int .i64 (0),.int .i64 (-2),.int .i64 (0),.int .i64 (-1),.int .i64 (1),.int .i64 (-1),.int .i64 (2),.int .i64 (-1),.int .i64 (3),.int .i64 (-1)]) (.int .i64 (1:Int))).run Tryz.prog w= .ok (.agg #[.int .i64 (-2),.int .i64 (0)]) w:=fun _=>by kernel_rfl
   have hlt:=hS.out.lb
   have hne:b≠wr.heap.size:=by omega
   have S0:=hS.out.alloc (.cells #[.int .i64 (-2),.int .i64 (0)] 133)
   have k0:=S0.k0
   have k1:=S0.k1
   have ff:=new_last (w:=wr) rfl (.cells #[.int .i64 (-2),.int .i64 (0)] 133)
   go_wp2
   have k0d:∀v:Value,((wr.alloc (.cells #[v,.int .i64 (0)] 133)).drew).cell? ⟨b,1,none⟩=some (.int .i64 cols):=fun v=>(hS.out.alloc _).k1
   go_region
   all_goals go_wp2_with (go_at_call 100;go_loud (refine(putAt (k:=1) (ps:=coords rows cols (3,0,0)) (((hS.out.alloc _).drew)) (by simp[coords]) rfl HI.out hpos _ _ (by refine Prod.ext ?_ ?_<;>simp[coords]<;>omega)).mono ?_;rintro e w' ⟨rfl,hp⟩))
   all_goals exact⟨⟨2,by omega,rfl,hp⟩,by simp[intOf]⟩
  ·have ia:∀w,(Instr.index 134 (.agg #[.int .i64 (-3),.int .i64 (0),.int .i64 (-2),.int .i64 (0),.int .i64 (-1),.int .i64 (0),.int .i64 (0),.int .i64 (-2),.int .i64 (0),.int .i64 (-1),.int .i64 (1),.int .i64 (-1),.int .i64 (2),.int .i64 (-1),.int .i64 (3),.int .i64 (-1)]) (.int .i64 ((2:Nat):Int))).run Tryz.prog w= .ok (.agg #[.int .i64 (-1),.int .i64 (0)]) w:=fun _=>by kernel_rfl
   have ib:∀w,(Instr.index 134 (.agg #[.int .i64 (-3),.int .i64 (0),.int .i64 (-2),.int .i64 (0),.int .i64 (-1),.int .i64 (0),.int .i64 (0),.int .i64 (-2),.int .i64 (0),.int .i64 (-1),.int .i64 (1),.int .i64 (-1),.int .i64 (2),.int .i64 (-1),.int .i64 (3),.int .i64 (-1)]) (.int .i64 (2:Int))).run Tryz.prog w= .ok (.agg #[.int .i64 (-1),.int .i64 (0)]) w:=fun _=>by kernel_rfl
   have hlt:=hS.out.lb
   have hne:b≠wr.heap.size:=by omega
   have S0:=hS.out.alloc (.cells #[.int .i64 (-1),.int .i64 (0)] 133)
   have k0:=S0.k0
   have k1:=S0.k1
   have ff:=new_last (w:=wr) rfl (.cells #[.int .i64 (-1),.int .i64 (0)] 133)
   go_wp2
   have k0d:∀v:Value,((wr.alloc (.cells #[v,.int .i64 (0)] 133)).drew).cell? ⟨b,1,none⟩=some (.int .i64 cols):=fun v=>(hS.out.alloc _).k1
   go_region
   all_goals go_wp2_with (go_at_call 100;go_loud (refine(putAt (k:=2) (ps:=coords rows cols (3,0,0)) (((hS.out.alloc _).drew)) (by simp[coords]) rfl HI.out hpos _ _ (by refine Prod.ext ?_ ?_<;>simp[coords]<;>omega)).mono ?_;rintro e w' ⟨rfl,hp⟩))
   all_goals exact⟨⟨3,by omega,rfl,hp⟩,by simp[intOf]⟩
  ·have ia:∀w,(Instr.index 134 (.agg #[.int .i64 (-3),.int .i64 (0),.int .i64 (-2),.int .i64 (0),.int .i64 (-1),.int .i64 (0),.int .i64 (0),.int .i64 (-2),.int .i64 (0),.int .i64 (-1),.int .i64 (1),.int .i64 (-1),.int .i64 (2),.int .i64 (-1),.int .i64 (3),.int .i64 (-1)]) (.int .i64 ((3:Nat):Int))).run Tryz.prog w= .ok (.agg #[.int .i64 (0),.int .i64 (-2)]) w:=fun _=>by kernel_rfl
   have ib:∀w,(Instr.index 134 (.agg #[.int .i64 (-3),.int .i64 (0),.int .i64 (-2),.int .i64 (0),.int .i64 (-1),.int .i64 (0),.int .i64 (0),.int .i64 (-2),.int .i64 (0),.int .i64 (-1),.int .i64 (1),.int .i64 (-1),.int .i64 (2),.int .i64 (-1),.int .i64 (3),.int .i64 (-1)]) (.int .i64 (3:Int))).run Tryz.prog w= .ok (.agg #[.int .i64 (0),.int .i64 (-2)]) w:=fun _=>by kernel_rfl
   have hlt:=hS.out.lb
   have hne:b≠wr.heap.size:=by omega
   have S0:=hS.out.alloc (.cells #[.int .i64 (0),.int .i64 (-2)] 133)
   have k0:=S0.k0
   have k1:=S0.k1
   have ff:=new_last (w:=wr) rfl (.cells #[.int .i64 (0),.int .i64 (-2)] 133)
   go_wp2
   have k0d:∀v:Value,((wr.alloc (.cells #[v,.int .i64 (-2)] 133)).drew).cell? ⟨b,1,none⟩=some (.int .i64 cols):=fun v=>(hS.out.alloc _).k1
   go_region
   all_goals go_wp2_with (go_at_call 100;go_loud (refine(putAt (k:=3) (ps:=coords rows cols (3,0,0)) (((hS.out.alloc _).drew)) (by simp[coords]) rfl HI.out hpos _ _ (by refine Prod.ext ?_ ?_<;>simp[coords]<;>omega)).mono ?_;rintro e w' ⟨rfl,hp⟩))
   all_goals exact⟨⟨4,by omega,rfl,hp⟩,by simp[intOf]⟩
  ·have ia:∀w,(Instr.index 134 (.agg #[.int .i64 (-3),.int .i64 (0),.int .i64 (-2),.int .i64 (0),.int .i64 (-1),.int .i64 (0),.int .i64 (0),.int .i64 (-2),.int .i64 (0),.int .i64 (-1),.int .i64 (1),.int .i64 (-1),.int .i64 (2),.int .i64 (-1),.int .i64 (3),.int .i64 (-1)]) (.int .i64 ((4:Nat):Int))).run Tryz.prog w= .ok (.agg #[.int .i64 (0),.int .i64 (-1)]) w:=fun _=>by kernel_rfl
   have ib:∀w,(Instr.index 134 (.agg #[.int .i64 (-3),.int .i64 (0),.int .i64 (-2),.int .i64 (0),.int .i64 (-1),.int .i64 (0),.int .i64 (0),.int .i64 (-2),.int .i64 (0),.int .i64 (-1),.int .i64 (1),.int .i64 (-1),.int .i64 (2),.int .i64 (-1),.int .i64 (3),.int .i64 (-1)]) (.int .i64 (4:Int))).run Tryz.prog w= .ok (.agg #[.int .i64 (0),.int .i64 (-1)]) w:=fun _=>by kernel_rfl
   have hlt:=hS.out.lb
   have hne:b≠wr.heap.size:=by omega
   have S0:=hS.out.alloc (.cells #[.int .i64 (0),.int .i64 (-1)] 133)
   have k0:=S0.k0
   have k1:=S0.k1
   have ff:=new_last (w:=wr) rfl (.cells #[.int .i64 (0),.int .i64 (-1)] 133)
   go_wp2
   have k0d:∀v:Value,((wr.alloc (.cells #[v,.int .i64 (-1)] 133)).drew).cell? ⟨b,1,none⟩=some (.int .i64 cols):=fun v=>(hS.out.alloc _).k1
   go_region
   all_goals go_wp2_with (go_at_call 100;go_loud (refine(putAt (k:=4) (ps:=coords rows cols (3,0,0)) (((hS.out.alloc _).drew)) (by simp[coords]) rfl HI.out hpos _ _ (by refine Prod.ext ?_ ?_<;>simp[coords]<;>omega)).mono ?_;rintro e w' ⟨rfl,hp⟩))
   all_goals exact⟨⟨5,by omega,rfl,hp⟩,by simp[intOf]⟩
  ·have ia:∀w,(Instr.index 134 (.agg #[.int .i64 (-3),.int .i64 (0),.int .i64 (-2),.int .i64 (0),.int .i64 (-1),.int .i64 (0),.int .i64 (0),.int .i64 (-2),.int .i64 (0),.int .i64 (-1),.int .i64 (1),.int .i64 (-1),.int .i64 (2),.int .i64 (-1),.int .i64 (3),.int .i64 (-1)]) (.int .i64 ((5:Nat):Int))).run Tryz.prog w= .ok (.agg #[.int .i64 (1),.int .i64 (-1)]) w:=fun _=>by kernel_rfl
   have ib:∀w,(Instr.index 134 (.agg #[.int .i64 (-3),.int .i64 (0),.int .i64 (-2),.int .i64 (0),.int .i64 (-1),.int .i64 (0),.int .i64 (0),.int .i64 (-2),.int .i64 (0),.int .i64 (-1),.int .i64 (1),.int .i64 (-1),.int .i64 (2),.int .i64 (-1),.int .i64 (3),.int .i64 (-1)]) (.int .i64 (5:Int))).run Tryz.prog w= .ok (.agg #[.int .i64 (1),.int .i64 (-1)]) w:=fun _=>by kernel_rfl
   have hlt:=hS.out.lb
   have hne:b≠wr.heap.size:=by omega
   have S0:=hS.out.alloc (.cells #[.int .i64 (1),.int .i64 (-1)] 133)
   have k0:=S0.k0
   have k1:=S0.k1
   have ff:=new_last (w:=wr) rfl (.cells #[.int .i64 (1),.int .i64 (-1)] 133)
   go_wp2
   have k0d:∀v:Value,((wr.alloc (.cells #[v,.int .i64 (-1)] 133)).drew).cell? ⟨b,1,none⟩=some (.int .i64 cols):=fun v=>(hS.out.alloc _).k1
   go_region
   all_goals go_wp2_with (go_at_call 100;go_loud (refine(putAt (k:=5) (ps:=coords rows cols (3,0,0)) (((hS.out.alloc _).drew)) (by simp[coords]) rfl HI.out hpos _ _ (by refine Prod.ext ?_ ?_<;>simp[coords]<;>omega)).mono ?_;rintro e w' ⟨rfl,hp⟩))
   all_goals exact⟨⟨6,by omega,rfl,hp⟩,by simp[intOf]⟩
  ·have ia:∀w,(Instr.index 134 (.agg #[.int .i64 (-3),.int .i64 (0),.int .i64 (-2),.int .i64 (0),.int .i64 (-1),.int .i64 (0),.int .i64 (0),.int .i64 (-2),.int .i64 (0),.int .i64 (-1),.int .i64 (1),.int .i64 (-1),.int .i64 (2),.int .i64 (-1),.int .i64 (3),.int .i64 (-1)]) (.int .i64 ((6:Nat):Int))).run Tryz.prog w= .ok (.agg #[.int .i64 (2),.int .i64 (-1)]) w:=fun _=>by kernel_rfl
   have ib:∀w,(Instr.index 134 (.agg #[.int .i64 (-3),.int .i64 (0),.int .i64 (-2),.int .i64 (0),.int .i64 (-1),.int .i64 (0),.int .i64 (0),.int .i64 (-2),.int .i64 (0),.int .i64 (-1),.int .i64 (1),.int .i64 (-1),.int .i64 (2),.int .i64 (-1),.int .i64 (3),.int .i64 (-1)]) (.int .i64 (6:Int))).run Tryz.prog w= .ok (.agg #[.int .i64 (2),.int .i64 (-1)]) w:=fun _=>by kernel_rfl
   have hlt:=hS.out.lb
   have hne:b≠wr.heap.size:=by omega
   have S0:=hS.out.alloc (.cells #[.int .i64 (2),.int .i64 (-1)] 133)
   have k0:=S0.k0
   have k1:=S0.k1
   have ff:=new_last (w:=wr) rfl (.cells #[.int .i64 (2),.int .i64 (-1)] 133)
   go_wp2
   have k0d:∀v:Value,((wr.alloc (.cells #[v,.int .i64 (-1)] 133)).drew).cell? ⟨b,1,none⟩=some (.int .i64 cols):=fun v=>(hS.out.alloc _).k1
   go_region
   all_goals go_wp2_with (go_at_call 100;go_loud (refine(putAt (k:=6) (ps:=coords rows cols (3,0,0)) (((hS.out.alloc _).drew)) (by simp[coords]) rfl HI.out hpos _ _ (by refine Prod.ext ?_ ?_<;>simp[coords]<;>omega)).mono ?_;rintro e w' ⟨rfl,hp⟩))
   all_goals exact⟨⟨7,by omega,rfl,hp⟩,by simp[intOf]⟩
  ·have ia:∀w,(Instr.index 134 (.agg #[.int .i64 (-3),.int .i64 (0),.int .i64 (-2),.int .i64 (0),.int .i64 (-1),.int .i64 (0),.int .i64 (0),.int .i64 (-2),.int .i64 (0),.int .i64 (-1),.int .i64 (1),.int .i64 (-1),.int .i64 (2),.int .i64 (-1),.int .i64 (3),.int .i64 (-1)]) (.int .i64 ((7:Nat):Int))).run Tryz.prog w= .ok (.agg #[.int .i64 (3),.int .i64 (-1)]) w:=fun _=>by kernel_rfl
   have ib:∀w,(Instr.index 134 (.agg #[.int .i64 (-3),.int .i64 (0),.int .i64 (-2),.int .i64 (0),.int .i64 (-1),.int .i64 (0),.int .i64 (0),.int .i64 (-2),.int .i64 (0),.int .i64 (-1),.int .i64 (1),.int .i64 (-1),.int .i64 (2),.int .i64 (-1),.int .i64 (3),.int .i64 (-1)]) (.int .i64 (7:Int))).run Tryz.prog w= .ok (.agg #[.int .i64 (3),.int .i64 (-1)]) w:=fun _=>by kernel_rfl
   have hlt:=hS.out.lb
   have hne:b≠wr.heap.size:=by omega
   have S0:=hS.out.alloc (.cells #[.int .i64 (3),.int .i64 (-1)] 133)
   have k0:=S0.k0
   have k1:=S0.k1
   have ff:=new_last (w:=wr) rfl (.cells #[.int .i64 (3),.int .i64 (-1)] 133)
   go_wp2
   have k0d:∀v:Value,((wr.alloc (.cells #[v,.int .i64 (-1)] 133)).drew).cell? ⟨b,1,none⟩=some (.int .i64 cols):=fun v=>(hS.out.alloc _).k1
   go_region
   all_goals go_wp2_with (go_at_call 100;go_loud (refine(putAt (k:=7) (ps:=coords rows cols (3,0,0)) (((hS.out.alloc _).drew)) (by simp[coords]) rfl HI.out hpos _ _ (by refine Prod.ext ?_ ?_<;>simp[coords]<;>omega)).mono ?_;rintro e w' ⟨rfl,hp⟩))
   all_goals exact⟨⟨8,by omega,rfl,hp⟩,by simp[intOf]⟩
  ·go_wp2
   go_end0
   exact⟨rfl,hS.out⟩
set_option maxRecDepth 100000 in
set_option maxHeartbeats 8000000 in
theorem shape4_calls {w0 w:World} {b bb rows cols:Nat} {bits:List Int} (h:SMem w0 w b bb rows cols bits) (pos:Nat) (hi:∀p∈coords rows cols (4,0,0),InR rows cols p) (hpos:pos≤4000):
 Calls Tryz.prog 99 #[.pointer (some ⟨b,0,none⟩),.int .i64 pos,.agg #[.int .i64 (-1),.int .i64 (0),.int .i64 (-1),.int .i64 (-1),.int .i64 (0),.int .i64 (-3),.int .i64 (0),.int .i64 (-2),.int .i64 (0),.int .i64 (-1),.int .i64 (1),.int .i64 (-3),.int .i64 (1),.int .i64 (-2),.int .i64 (1),.int .i64 (-1)]] w (SSet w0 b bb rows cols (setLS rows cols pos 0 (coords rows cols (4,0,0)) bits)):=by
 have r0:=h.r0
 have r1:=h.r1
 have c0:=h.c0
 have c1:=h.c1
 have H:=Lib.hid (h.alloc (.cells #[.int .i64 (-1),.int .i64 (0),.int .i64 (-1),.int .i64 (-1),.int .i64 (0),.int .i64 (-3),.int .i64 (0),.int .i64 (-2),.int .i64 (0),.int .i64 (-1),.int .i64 (1),.int .i64 (-3),.int .i64 (1),.int .i64 (-2),.int .i64 (1),.int .i64 (-1)] 134))
 have HI:=Lib.hid hi
 clear h hi
 go_enter Tryz.func99,Tryz.ntmps99
 go_wp2
 go_loopw [9] (fun i wr=>∃k:Nat,k≤8∧i= .int .i64 k∧Hid (SMem w0 wr b bb rows cols (setLS rows cols pos 0 ((coords rows cols (4,0,0)).take k) bits))) (fun i _=>8-(intOf i).toNat)
 case atStart=>exact⟨0,by omega,rfl,H.out⟩
 case round=>
  obtain⟨k,hk,rfl,hS⟩:=hrel
  obtain rfl|rfl|rfl|rfl|rfl|rfl|rfl|rfl|rfl:k=0∨k=1∨k=2∨k=3∨k=4∨k=5∨k=6∨k=7∨k=8:=by omega
  ·have ia:∀w,(Instr.index 134 (.agg #[.int .i64 (-1),.int .i64 (0),.int .i64 (-1),.int .i64 (-1),.int .i64 (0),.int .i64 (-3),.int .i64 (0),.int .i64 (-2),.int .i64 (0),.int .i64 (-1),.int .i64 (1),.int .i64 (-3),.int .i64 (1),.int .i64 (-2),.int .i64 (1),.int .i64 (-1)]) (.int .i64 ((0:Nat):Int))).run Tryz.prog w= .ok (.agg #[.int .i64 (-1),.int .i64 (0)]) w:=fun _=>by kernel_rfl
   have ib:∀w,(Instr.index 134 (.agg #[.int .i64 (-1),.int .i64 (0),.int .i64 (-1),.int .i64 (-1),.int .i64 (0),.int .i64 (-3),.int .i64 (0),.int .i64 (-2),.int .i64 (0),.int .i64 (-1),.int .i64 (1),.int .i64 (-3),.int .i64 (1),.int .i64 (-2),.int .i64 (1),.int .i64 (-1)]) (.int .i64 (0:Int))).run Tryz.prog w= .ok (.agg #[.int .i64 (-1),.int .i64 (0)]) w:=fun _=>by kernel_rfl
   have hlt:=hS.out.lb
   have hne:b≠wr.heap.size:=by omega
   have S0:=hS.out.alloc (.cells #[.int .i64 (-1),.int .i64 (0)] 133)
   have k0:=S0.k0
   have k1:=S0.k1
   have ff:=new_last (w:=wr) rfl (.cells #[.int .i64 (-1),.int .i64 (0)] 133)
   go_wp2
   have k0d:∀v:Value,((wr.alloc (.cells #[v,.int .i64 (0)] 133)).drew).cell? ⟨b,1,none⟩=some (.int .i64 cols):=fun v=>(hS.out.alloc _).k1
   go_region
   all_goals go_wp2_with (go_at_call 100;go_loud (refine(putAt (k:=0) (ps:=coords rows cols (4,0,0)) (((hS.out.alloc _).drew)) (by simp[coords]) rfl HI.out hpos _ _ (by refine Prod.ext ?_ ?_<;>simp[coords]<;>omega)).mono ?_;rintro e w' ⟨rfl,hp⟩))
   all_goals exact⟨⟨1,by omega,rfl,hp⟩,by simp[intOf]⟩
  ·have ia:∀w,(Instr.index 134 (.agg #[.int .i64 (-1),.int .i64 (0),.int .i64 (-1),.int .i64 (-1),.int .i64 (0),.int .i64 (-3),.int .i64 (0),.int .i64 (-2),.int .i64 (0),.int .i64 (-1),.int .i64 (1),.int .i64 (-3),.int .i64 (1),.int .i64 (-2),.int .i64 (1),.int .i64 (-1)]) (.int .i64 ((1:Nat):Int))).run Tryz.prog w= .ok (.agg #[.int .i64 (-1),.int .i64 (-1)]) w:=fun _=>by kernel_rfl
   have ib:∀w,(Instr.index 134 (.agg #[.int .i64 (-1),.int .i64 (0),.int .i64 (-1),.int .i64 (-1),.int .i64 (0),.int .i64 (-3),.int .i64 (0),.int .i64 (-2),.int .i64 (0),.int .i64 (-1),.int .i64 (1),.int .i64 (-3),.int .i64 (1),.int .i64 (-2),.int .i64 (1),.int .i64 (-1)]) (.int .i64 (1:Int))).run Tryz.prog w= .ok (.agg #[.int .i64 (-1),.int .i64 (-1)]) w:=fun _=>by kernel_rfl
   have hlt:=hS.out.lb
   have hne:b≠wr.heap.size:=by omega
   have S0:=hS.out.alloc (.cells #[.int .i64 (-1),.int .i64 (-1)] 133)
   have k0:=S0.k0
   have k1:=S0.k1
   have ff:=new_last (w:=wr) rfl (.cells #[.int .i64 (-1),.int .i64 (-1)] 133)
   go_wp2
   have k0d:∀v:Value,((wr.alloc (.cells #[v,.int .i64 (-1)] 133)).drew).cell? ⟨b,1,none⟩=some (.int .i64 cols):=fun v=>(hS.out.alloc _).k1
   go_region
   all_goals go_wp2
   all_goals go_region
   all_goals go_wp2_with (go_at_call 100;go_loud (refine(putAt (k:=1) (ps:=coords rows cols (4,0,0)) ((by first|exact(hS.out.alloc _).drew.drew|exact(hS.out.alloc _).drewN 2)) (by simp[coords]) rfl HI.out hpos _ _ (by refine Prod.ext ?_ ?_<;>simp[coords]<;>omega)).mono ?_;rintro e w' ⟨rfl,hp⟩))
   all_goals exact⟨⟨2,by omega,rfl,hp⟩,by simp[intOf]⟩
  ·have ia:∀w,(Instr.index 134 (.agg #[.int .i64 (-1),.int .i64 (0),.int .i64 (-1),.int .i64 (-1),.int .i64 (0),.int .i64 (-3),.int .i64 (0),.int .i64 (-2),.int .i64 (0),.int .i64 (-1),.int .i64 (1),.int .i64 (-3),.int .i64 (1),.int .i64 (-2),.int .i64 (1),.int .i64 (-1)]) (.int .i64 ((2:Nat):Int))).run Tryz.prog w= .ok (.agg #[.int .i64 (0),.int .i64 (-3)]) w:=fun _=>by kernel_rfl
   have ib:∀w,(Instr.index 134 (.agg #[.int .i64 (-1),.int .i64 (0),.int .i64 (-1),.int .i64 (-1),.int .i64 (0),.int .i64 (-3),.int .i64 (0),.int .i64 (-2),.int .i64 (0),.int .i64 (-1),.int .i64 (1),.int .i64 (-3),.int .i64 (1),.int .i64 (-2),.int .i64 (1),.int .i64 (-1)]) (.int .i64 (2:Int))).run Tryz.prog w= .ok (.agg #[.int .i64 (0),.int .i64 (-3)]) w:=fun _=>by kernel_rfl
   have hlt:=hS.out.lb
   have hne:b≠wr.heap.size:=by omega
   have S0:=hS.out.alloc (.cells #[.int .i64 (0),.int .i64 (-3)] 133)
   have k0:=S0.k0
   have k1:=S0.k1
   have ff:=new_last (w:=wr) rfl (.cells #[.int .i64 (0),.int .i64 (-3)] 133)
   go_wp2
   have k0d:∀v:Value,((wr.alloc (.cells #[v,.int .i64 (-3)] 133)).drew).cell? ⟨b,1,none⟩=some (.int .i64 cols):=fun v=>(hS.out.alloc _).k1
   go_region
   all_goals go_wp2_with (go_at_call 100;go_loud (refine(putAt (k:=2) (ps:=coords rows cols (4,0,0)) (((hS.out.alloc _).drew)) (by simp[coords]) rfl HI.out hpos _ _ (by refine Prod.ext ?_ ?_<;>simp[coords]<;>omega)).mono ?_;rintro e w' ⟨rfl,hp⟩))
   all_goals exact⟨⟨3,by omega,rfl,hp⟩,by simp[intOf]⟩
  ·have ia:∀w,(Instr.index 134 (.agg #[.int .i64 (-1),.int .i64 (0),.int .i64 (-1),.int .i64 (-1),.int .i64 (0),.int .i64 (-3),.int .i64 (0),.int .i64 (-2),.int .i64 (0),.int .i64 (-1),.int .i64 (1),.int .i64 (-3),.int .i64 (1),.int .i64 (-2),.int .i64 (1),.int .i64 (-1)]) (.int .i64 ((3:Nat):Int))).run Tryz.prog w= .ok (.agg #[.int .i64 (0),.int .i64 (-2)]) w:=fun _=>by kernel_rfl
   have ib:∀w,(Instr.index 134 (.agg #[.int .i64 (-1),.int .i64 (0),.int .i64 (-1),.int .i64 (-1),.int .i64 (0),.int .i64 (-3),.int .i64 (0),.int .i64 (-2),.int .i64 (0),.int .i64 (-1),.int .i64 (1),.int .i64 (-3),.int .i64 (1),.int .i64 (-2),.int .i64 (1),.int .i64 (-1)]) (.int .i64 (3:Int))).run Tryz.prog w= .ok (.agg #[.int .i64 (0),.int .i64 (-2)]) w:=fun _=>by kernel_rfl
   have hlt:=hS.out.lb
   have hne:b≠wr.heap.size:=by omega
   have S0:=hS.out.alloc (.cells #[.int .i64 (0),.int .i64 (-2)] 133)
   have k0:=S0.k0
   have k1:=S0.k1
   have ff:=new_last (w:=wr) rfl (.cells #[.int .i64 (0),.int .i64 (-2)] 133)
   go_wp2
   have k0d:∀v:Value,((wr.alloc (.cells #[v,.int .i64 (-2)] 133)).drew).cell? ⟨b,1,none⟩=some (.int .i64 cols):=fun v=>(hS.out.alloc _).k1
   go_region
   all_goals go_wp2_with (go_at_call 100;go_loud (refine(putAt (k:=3) (ps:=coords rows cols (4,0,0)) (((hS.out.alloc _).drew)) (by simp[coords]) rfl HI.out hpos _ _ (by refine Prod.ext ?_ ?_<;>simp[coords]<;>omega)).mono ?_;rintro e w' ⟨rfl,hp⟩))
   all_goals exact⟨⟨4,by omega,rfl,hp⟩,by simp[intOf]⟩
  ·have ia:∀w,(Instr.index 134 (.agg #[.int .i64 (-1),.int .i64 (0),.int .i64 (-1),.int .i64 (-1),.int .i64 (0),.int .i64 (-3),.int .i64 (0),.int .i64 (-2),.int .i64 (0),.int .i64 (-1),.int .i64 (1),.int .i64 (-3),.int .i64 (1),.int .i64 (-2),.int .i64 (1),.int .i64 (-1)]) (.int .i64 ((4:Nat):Int))).run Tryz.prog w= .ok (.agg #[.int .i64 (0),.int .i64 (-1)]) w:=fun _=>by kernel_rfl
   have ib:∀w,(Instr.index 134 (.agg #[.int .i64 (-1),.int .i64 (0),.int .i64 (-1),.int .i64 (-1),.int .i64 (0),.int .i64 (-3),.int .i64 (0),.int .i64 (-2),.int .i64 (0),.int .i64 (-1),.int .i64 (1),.int .i64 (-3),.int .i64 (1),.int .i64 (-2),.int .i64 (1),.int .i64 (-1)]) (.int .i64 (4:Int))).run Tryz.prog w= .ok (.agg #[.int .i64 (0),.int .i64 (-1)]) w:=fun _=>by kernel_rfl
   have hlt:=hS.out.lb
   have hne:b≠wr.heap.size:=by omega
   have S0:=hS.out.alloc (.cells #[.int .i64 (0),.int .i64 (-1)] 133)
   have k0:=S0.k0
   have k1:=S0.k1
   have ff:=new_last (w:=wr) rfl (.cells #[.int .i64 (0),.int .i64 (-1)] 133)
   go_wp2
   have k0d:∀v:Value,((wr.alloc (.cells #[v,.int .i64 (-1)] 133)).drew).cell? ⟨b,1,none⟩=some (.int .i64 cols):=fun v=>(hS.out.alloc _).k1
   go_region
   all_goals go_wp2_with (go_at_call 100;go_loud (refine(putAt (k:=4) (ps:=coords rows cols (4,0,0)) (((hS.out.alloc _).drew)) (by simp[coords]) rfl HI.out hpos _ _ (by refine Prod.ext ?_ ?_<;>simp[coords]<;>omega)).mono ?_;rintro e w' ⟨rfl,hp⟩))
   all_goals exact⟨⟨5,by omega,rfl,hp⟩,by simp[intOf]⟩
  ·have ia:∀w,(Instr.index 134 (.agg #[.int .i64 (-1),.int .i64 (0),.int .i64 (-1),.int .i64 (-1),.int .i64 (0),.int .i64 (-3),.int .i64 (0),.int .i64 (-2),.int .i64 (0),.int .i64 (-1),.int .i64 (1),.int .i64 (-3),.int .i64 (1),.int .i64 (-2),.int .i64 (1),.int .i64 (-1)]) (.int .i64 ((5:Nat):Int))).run Tryz.prog w= .ok (.agg #[.int .i64 (1),.int .i64 (-3)]) w:=fun _=>by kernel_rfl
   have ib:∀w,(Instr.index 134 (.agg #[.int .i64 (-1),.int .i64 (0),.int .i64 (-1),.int .i64 (-1),.int .i64 (0),.int .i64 (-3),.int .i64 (0),.int .i64 (-2),.int .i64 (0),.int .i64 (-1),.int .i64 (1),.int .i64 (-3),.int .i64 (1),.int .i64 (-2),.int .i64 (1),.int .i64 (-1)]) (.int .i64 (5:Int))).run Tryz.prog w= .ok (.agg #[.int .i64 (1),.int .i64 (-3)]) w:=fun _=>by kernel_rfl
   have hlt:=hS.out.lb
   have hne:b≠wr.heap.size:=by omega
   have S0:=hS.out.alloc (.cells #[.int .i64 (1),.int .i64 (-3)] 133)
   have k0:=S0.k0
   have k1:=S0.k1
   have ff:=new_last (w:=wr) rfl (.cells #[.int .i64 (1),.int .i64 (-3)] 133)
   go_wp2
   have k0d:∀v:Value,((wr.alloc (.cells #[v,.int .i64 (-3)] 133)).drew).cell? ⟨b,1,none⟩=some (.int .i64 cols):=fun v=>(hS.out.alloc _).k1
   go_region
   all_goals go_wp2_with (go_at_call 100;go_loud (refine(putAt (k:=5) (ps:=coords rows cols (4,0,0)) (((hS.out.alloc _).drew)) (by simp[coords]) rfl HI.out hpos _ _ (by refine Prod.ext ?_ ?_<;>simp[coords]<;>omega)).mono ?_;rintro e w' ⟨rfl,hp⟩))
   all_goals exact⟨⟨6,by omega,rfl,hp⟩,by simp[intOf]⟩
  ·have ia:∀w,(Instr.index 134 (.agg #[.int .i64 (-1),.int .i64 (0),.int .i64 (-1),.int .i64 (-1),.int .i64 (0),.int .i64 (-3),.int .i64 (0),.int .i64 (-2),.int .i64 (0),.int .i64 (-1),.int .i64 (1),.int .i64 (-3),.int .i64 (1),.int .i64 (-2),.int .i64 (1),.int .i64 (-1)]) (.int .i64 ((6:Nat):Int))).run Tryz.prog w= .ok (.agg #[.int .i64 (1),.int .i64 (-2)]) w:=fun _=>by kernel_rfl
   have ib:∀w,(Instr.index 134 (.agg #[.int .i64 (-1),.int .i64 (0),.int .i64 (-1),.int .i64 (-1),.int .i64 (0),.int .i64 (-3),.int .i64 (0),.int .i64 (-2),.int .i64 (0),.int .i64 (-1),.int .i64 (1),.int .i64 (-3),.int .i64 (1),.int .i64 (-2),.int .i64 (1),.int .i64 (-1)]) (.int .i64 (6:Int))).run Tryz.prog w= .ok (.agg #[.int .i64 (1),.int .i64 (-2)]) w:=fun _=>by kernel_rfl
   have hlt:=hS.out.lb
   have hne:b≠wr.heap.size:=by omega
   have S0:=hS.out.alloc (.cells #[.int .i64 (1),.int .i64 (-2)] 133)
   have k0:=S0.k0
   have k1:=S0.k1
   have ff:=new_last (w:=wr) rfl (.cells #[.int .i64 (1),.int .i64 (-2)] 133)
   go_wp2
   have k0d:∀v:Value,((wr.alloc (.cells #[v,.int .i64 (-2)] 133)).drew).cell? ⟨b,1,none⟩=some (.int .i64 cols):=fun v=>(hS.out.alloc _).k1
   go_region
   all_goals go_wp2_with (go_at_call 100;go_loud (refine(putAt (k:=6) (ps:=coords rows cols (4,0,0)) (((hS.out.alloc _).drew)) (by simp[coords]) rfl HI.out hpos _ _ (by refine Prod.ext ?_ ?_<;>simp[coords]<;>omega)).mono ?_;rintro e w' ⟨rfl,hp⟩))
   all_goals exact⟨⟨7,by omega,rfl,hp⟩,by simp[intOf]⟩
  ·have ia:∀w,(Instr.index 134 (.agg #[.int .i64 (-1),.int .i64 (0),.int .i64 (-1),.int .i64 (-1),.int .i64 (0),.int .i64 (-3),.int .i64 (0),.int .i64 (-2),.int .i64 (0),.int .i64 (-1),.int .i64 (1),.int .i64 (-3),.int .i64 (1),.int .i64 (-2),.int .i64 (1),.int .i64 (-1)]) (.int .i64 ((7:Nat):Int))).run Tryz.prog w= .ok (.agg #[.int .i64 (1),.int .i64 (-1)]) w:=fun _=>by kernel_rfl
   have ib:∀w,(Instr.index 134 (.agg #[.int .i64 (-1),.int .i64 (0),.int .i64 (-1),.int .i64 (-1),.int .i64 (0),.int .i64 (-3),.int .i64 (0),.int .i64 (-2),.int .i64 (0),.int .i64 (-1),.int .i64 (1),.int .i64 (-3),.int .i64 (1),.int .i64 (-2),.int .i64 (1),.int .i64 (-1)]) (.int .i64 (7:Int))).run Tryz.prog w= .ok (.agg #[.int .i64 (1),.int .i64 (-1)]) w:=fun _=>by kernel_rfl
   have hlt:=hS.out.lb
   have hne:b≠wr.heap.size:=by omega
   have S0:=hS.out.alloc (.cells #[.int .i64 (1),.int .i64 (-1)] 133)
   have k0:=S0.k0
   have k1:=S0.k1
   have ff:=new_last (w:=wr) rfl (.cells #[.int .i64 (1),.int .i64 (-1)] 133)
   go_wp2
   have k0d:∀v:Value,((wr.alloc (.cells #[v,.int .i64 (-1)] 133)).drew).cell? ⟨b,1,none⟩=some (.int .i64 cols):=fun v=>(hS.out.alloc _).k1
   go_region
   all_goals go_wp2_with (go_at_call 100;go_loud (refine(putAt (k:=7) (ps:=coords rows cols (4,0,0)) (((hS.out.alloc _).drew)) (by simp[coords]) rfl HI.out hpos _ _ (by refine Prod.ext ?_ ?_<;>simp[coords]<;>omega)).mono ?_;rintro e w' ⟨rfl,hp⟩))
   all_goals exact⟨⟨8,by omega,rfl,hp⟩,by simp[intOf]⟩
  ·go_wp2
   go_end0
   exact⟨rfl,hS.out⟩
end
section
open Go.RowKit
def CornS (w0:World) (b bb rows cols pos:Nat) (row col:Int) (bits:List Int) (e:Ending) (w':World):Prop:=
 e= .returned (.bool (decide (cornerOf rows cols row col≠0)))∧SMem w0 w' b bb rows cols (if cornerOf rows cols row col=0 then bits else setLS rows cols pos 0 (coords rows cols (cornerOf rows cols row col,0,0)) bits)
theorem corner_0 {rows cols:Nat} {row col:Int} (h1:¬(row=rows∧col=0)) (h2:¬(row=(rows:Int)-2∧col=0∧¬(cols:Int)%4=0)) (h3:¬(row=(rows:Int)-2∧col=0∧(cols:Int)%8=4)) (h4:¬(row=(rows:Int)+4∧col=2∧(cols:Int)%8=0)):cornerOf rows cols row col=0:=by
 unfold cornerOf;rw[if_neg h1,if_neg h2,if_neg h3,if_neg h4]
set_option maxRecDepth 100000 in
set_option maxHeartbeats 8000000 in
theorem cornersS_calls {w0 w:World} {b bb rows cols:Nat} {bits:List Int} (h:SMem w0 w b bb rows cols bits) (row col:Int) (pos:Nat) (hr0: -200≤row) (hr1:row≤2000)
 (hi:cornerOf rows cols row col≠0→∀p∈coords rows cols (cornerOf rows cols row col,0,0),InR rows cols p) (hpos:pos≤4000):
 Calls Tryz.prog 49 #[.pointer (some ⟨b,0,none⟩),.int .i64 row,.int .i64 col,.int .i64 pos] w (CornS w0 b bb rows cols pos row col bits):=by
 have r0:=h.r0
 have r1:=h.r1
 have c0:=h.c0
 have c1:=h.c1
 have k0:=h.k0
 have k1:=h.k1
 have H:=Lib.hid h
 unfold CornS
 clear h
 by_cases q1:row=(rows:Int)∧col=0
 ·have e:=(corner_1 (cols:=cols)).2 q1
  rw[e]at hi ⊢
  have HI:=Lib.hid (hi (by omega))
  obtain⟨rfl,rfl⟩:=q1
  clear hi e
  go_enter Tryz.func49,Tryz.ntmps49
  go_wp2_with (go_at_call 99;go_loud (refine(shape1_calls H.out pos HI.out hpos).mono ?_;rintro e w' ⟨rfl,hp⟩))
  go_ret
  exact⟨rfl,hp⟩
 ·by_cases q3:row=(rows:Int)-2∧col=0∧(cols:Int)%8=4
  ·have e:=corner_3.2 q3
   rw[e]at hi ⊢
   have HI:=Lib.hid (hi (by omega))
   obtain⟨rfl,rfl,q3⟩:=q3
   have t0:((rows:Int)-2==(rows:Int))=false:=by rw[beq_eq_false_iff_ne];omega
   clear hi e q1
   go_enter Tryz.func49,Tryz.ntmps49
   go_wp2_with (go_at_call 99;go_loud (refine(shape3_calls H.out pos HI.out hpos).mono ?_;rintro e w' ⟨rfl,hp⟩))
   go_ret
   exact⟨rfl,hp⟩
  ·by_cases q2:row=(rows:Int)-2∧col=0∧¬(cols:Int)%4=0
   ·have e:=corner_2.2 q2
    rw[e]at hi ⊢
    have HI:=Lib.hid (hi (by omega))
    obtain⟨rfl,rfl,q2⟩:=q2
    have t0:((rows:Int)-2==(rows:Int))=false:=by rw[beq_eq_false_iff_ne];omega
    have t1:((cols:Int)%8==4)=false:=by rw[beq_eq_false_iff_ne];omega
    have t2:((cols:Int)%4 !=0)=true:=by rw[bne_iff_ne];omega
    clear hi e q1 q2 q3
    go_enter Tryz.func49,Tryz.ntmps49
    go_wp2_with (go_at_call 99;go_loud (refine(shape2_calls H.out pos HI.out hpos).mono ?_;rintro e w' ⟨rfl,hp⟩))
    go_ret
    exact⟨rfl,hp⟩
   ·by_cases q4:row=(rows:Int)+4∧col=2∧(cols:Int)%8=0
    ·have e:=corner_4.2 q4
     rw[e]at hi ⊢
     have HI:=Lib.hid (hi (by omega))
     obtain⟨rfl,rfl,q4⟩:=q4
     have t0:((rows:Int)+4==(rows:Int))=false:=by rw[beq_eq_false_iff_ne];omega
     have t1:((rows:Int)+4==(rows:Int)-2)=false:=by rw[beq_eq_false_iff_ne];omega
     have t2:((cols:Int)%8==0)=true:=by rw[beq_iff_eq];omega
     clear hi e q1 q2 q3 q4
     go_enter Tryz.func49,Tryz.ntmps49
     go_wp2_with (go_at_call 99;go_loud (refine(shape4_calls H.out pos HI.out hpos).mono ?_;rintro e w' ⟨rfl,hp⟩))
     go_ret
     exact⟨rfl,hp⟩
    ·rw[corner_0 q1 q2 q3 q4]
     clear hi
     by_cases p1:row=(rows:Int)
     ·have t0:(row==(rows:Int))=true:=by rw[beq_iff_eq];omega
      have t1:(col==0)=false:=by rw[beq_eq_false_iff_ne];omega
      have t2:(row==(rows:Int)-2)=false:=by rw[beq_eq_false_iff_ne];omega
      have t3:(row==(rows:Int)+4)=false:=by rw[beq_eq_false_iff_ne];omega
      clear p1 q1 q2 q3 q4
      go_enter Tryz.func49,Tryz.ntmps49
      go_wp2
      go_ret
      exact⟨rfl,H.out⟩
     ·have t0:(row==(rows:Int))=false:=by rw[beq_eq_false_iff_ne];omega
      by_cases p2:row=(rows:Int)-2
      ·have t2:(row==(rows:Int)-2)=true:=by rw[beq_iff_eq];omega
       have t3:(row==(rows:Int)+4)=false:=by rw[beq_eq_false_iff_ne];omega
       by_cases p3:col=0
       ·have t1:(col==0)=true:=by rw[beq_iff_eq];omega
        have t4:((cols:Int)%8==4)=false:=by rw[beq_eq_false_iff_ne];omega
        have t5:((cols:Int)%4 !=0)=false:=by rw[bne_eq_false_iff_eq];omega
        clear p1 q1 q2 q3 q4 p2 p3
        go_enter Tryz.func49,Tryz.ntmps49
        go_wp2
        go_ret
        exact⟨rfl,H.out⟩
       ·have t1:(col==0)=false:=by rw[beq_eq_false_iff_ne];omega
        clear p1 q1 q2 q3 q4 p2 p3
        go_enter Tryz.func49,Tryz.ntmps49
        go_wp2
        go_ret
        exact⟨rfl,H.out⟩
      ·have t2:(row==(rows:Int)-2)=false:=by rw[beq_eq_false_iff_ne];omega
       by_cases p4:row=(rows:Int)+4
       ·have t3:(row==(rows:Int)+4)=true:=by rw[beq_iff_eq];omega
        by_cases p5:col=2
        ·have t1:(col==2)=true:=by rw[beq_iff_eq];omega
         have t4:((cols:Int)%8==0)=false:=by rw[beq_eq_false_iff_ne];omega
         clear p1 q1 q2 q3 q4 p2 p4 p5
         go_enter Tryz.func49,Tryz.ntmps49
         go_wp2
         go_ret
         exact⟨rfl,H.out⟩
        ·have t1:(col==2)=false:=by rw[beq_eq_false_iff_ne];omega
         clear p1 q1 q2 q3 q4 p2 p4 p5
         go_enter Tryz.func49,Tryz.ntmps49
         go_wp2
         go_ret
         exact⟨rfl,H.out⟩
       ·have t3:(row==(rows:Int)+4)=false:=by rw[beq_eq_false_iff_ne];omega
        clear p1 q1 q2 q3 q4 p2 p4
        go_enter Tryz.func49,Tryz.ntmps49
        go_wp2
        go_ret
        exact⟨rfl,H.out⟩
end
end Go.Proofs.YtcnallabiffemaaGreatDoor
