/- Setting the context's shape and sizes. -/
import Derived.Test.YtcnallabiffemaaGreatDoorZg2
import Derived.Lib.OthersKept
set_option linter.unusedVariables false
set_option linter.unusedSimpArgs false
namespace Go.Proofs.YtcnallabiffemaaGreatDoor
section
open Go.RowKit
def noHead (s:ByteArray):Prop:=((s.extract 0 7).toList==[91,41,62,30,48,53,29])=false∧((s.extract 0 7).toList==[91,41,62,30,48,54,29])=false
set_option maxRecDepth 100000 in
theorem head5_calls {w:World} {s:ByteArray} (h:noHead s):
 Calls Tryz.prog 127 #[.string s,.string ⟨#[91,41,62,30,48,53,29]⟩] w fun e w'=>e= .returned (.bool false)∧w'=w:=by
 have h5:=h.1
 clear h
 by_cases hz:(7:Int)≤(s.size:Int)
 ·go_enter Tryz.func127,Tryz.ntmps127
  go_wp2
  go_ret
  exact⟨rfl,rfl⟩
 ·go_enter Tryz.func127,Tryz.ntmps127
  go_wp2
  go_ret
  exact⟨rfl,rfl⟩
set_option maxRecDepth 100000 in
theorem head6_calls {w:World} {s:ByteArray} (h:noHead s):
 Calls Tryz.prog 127 #[.string s,.string ⟨#[91,41,62,30,48,54,29]⟩] w fun e w'=>e= .returned (.bool false)∧w'=w:=by
 have h5:=h.2
 clear h
 by_cases hz:(7:Int)≤(s.size:Int)
 ·go_enter Tryz.func127,Tryz.ntmps127
  go_wp2
  go_ret
  exact⟨rfl,rfl⟩
 ·go_enter Tryz.func127,Tryz.ntmps127
  go_wp2
  go_ret
  exact⟨rfl,rfl⟩
set_option maxRecDepth 100000 in
theorem pre5_calls {w:World} {s:ByteArray} (h:noHead s):
 Calls Tryz.prog 85 #[.string s,.string ⟨#[91,41,62,30,48,53,29]⟩] w fun e w'=>e= .returned (.bool false)∧w'=w:=by
 go_enter Tryz.func85,Tryz.ntmps85
 go_wp2_with (go_at_call 127;refine(head5_calls h).mono ?_;rintro e w1 ⟨rfl,rfl⟩)
 go_ret
 exact⟨rfl,rfl⟩
set_option maxRecDepth 100000 in
theorem pre6_calls {w:World} {s:ByteArray} (h:noHead s):
 Calls Tryz.prog 85 #[.string s,.string ⟨#[91,41,62,30,48,54,29]⟩] w fun e w'=>e= .returned (.bool false)∧w'=w:=by
 go_enter Tryz.func85,Tryz.ntmps85
 go_wp2_with (go_at_call 127;refine(head6_calls h).mono ?_;rintro e w1 ⟨rfl,rfl⟩)
 go_ret
 exact⟨rfl,rfl⟩
end
section
open Go.RowKit
def txt (s:ByteArray):List Nat:=s.toList.map UInt8.toNat
theorem Own.iterAt {w:World} {base:Nat} {k:IntKind} {T:TypeId} {v:Value} {xs:List Nat} (h:Own w base k T v xs) {ib pos pos':Nat} {s:ByteArray} (hi:w.heap[ib]? =some (.stringIter s pos)):
 Own (w.iterAt ib s pos') base k T v xs:=by
 refine h.of_block fun g hg=>Lib.iterAt_other w ib g s pos' ?_
 intro e
 obtain⟨cs,h1⟩:=h.tag g hg
 rw[e,hi]at h1
 cases h1
theorem keep_iter {wA w':World} {ib base:Nat} {s:ByteArray} {pos:Nat} {o:Obj} {v:Value} {xs:List Nat} (hi:wA.heap[ib]? =some (.stringIter s pos)) (ho:Own wA base .u8 5 v xs) (hg:(wA.alloc o).grownBy w' v.ownBlock):
 w'.heap[ib]? =some (.stringIter s pos):=by
 have hlt:=lt_of_some hi
 refine(hg.block ib (by simp;omega) ?_).trans ((Below.heap_alloc _ _ _ hlt).trans hi)
 intro e
 obtain⟨cs,h1⟩:=ho.tag ib e.symm
 rw[hi]at h1;cases h1
set_option maxRecDepth 100000 in
set_option maxHeartbeats 4000000 in
theorem zz_calls {w:World} {s:ByteArray} (xs:List Nat) (hxl:xs.length=s.size) (hx:∀k (h:k<s.size),(s[k]'h).toNat=xs.getD k 0) (ha:∀k,xs.getD k 0<128) (hs:s.size≤5000) (h1:1≤s.size):
 Calls Tryz.prog 126 #[.int .i64 1,.string s] w (HighPost xs w):=by
 go_enter Tryz.func126,Tryz.ntmps126
 go_wp2
 go_loopw [6] (fun v wr=>∃k:Nat,k≤s.size∧Hid (Own wr w.heap.size .u8 5 v (xs.take k))∧wr.heap[w.heap.size]? =some (.stringIter s k)∧Hid (Below w.heap.size w wr)) (fun _ wr=>s.size-wr.iterPos w.heap.size)
 case atStart=>exact⟨0,by omega,Own.nil _ _ _ _,World.iter_heap w s 0,(Below.refl _ _).alloc (Nat.le_refl _) _⟩
 case round=>
  obtain⟨k,hk,ho,hit,hb⟩:=hrel
  by_cases hlt:k<s.size
  ·have hnx:∀ty,(Instr.next (.pointer (some ⟨w.heap.size,0,none⟩)) true ty).run Tryz.prog wr=_:=fun ty=>Lib.run_next_ascii_at wr w.heap.size s k ty hit hlt (by rw[hx k hlt];exact ha k)
   have hz:=ha k
   rw[hx k hlt]at hnx
   have hoA:=ho.out.iterAt hit (pos':=k+1)
   have hitA:=Lib.iterAt_heap wr w.heap.size s k (k+1) hit
   have hbA:=Lib.below_iterAt hb.out (k:=w.heap.size) (Nat.le_refl _) s (k+1)
   generalize wr.iterAt w.heap.size s (k+1)=wA at*
   have hsn:=take_snoc (xs:=xs) (k:=k) (by omega)
   obtain⟨z,hzz⟩:∃z,z=xs.getD k 0:=⟨_,rfl⟩
   rw[←hzz]at hnx hz hsn
   have HSN:=Lib.hid hsn
   have OA:=Lib.hid hoA
   have IA:=Lib.hid hitA
   have BA:=Lib.hid hbA
   clear hzz hsn hoA hitA hbA hx
   have hz1:¬(255:Int)<(z:Int):=by omega
   have hz2:(z:Int)<128:=by omega
   go_wp2_with (first|(refine app49 rfl (.tmp 33) (.tmp 36) rfl w.heap.size _ (xs.take k) rfl (OA.out.alloc _) wA.heap.size 1 1 [z] rfl rfl (Bytes.one rfl) (by simp;omega) (by have:=BA.out.size;simp;omega) ?_;intro v' w' ho2 hg hne;rw[HSN.out]at ho2;have HO:=Lib.hid ho2;have HI:=keep_iter IA.out OA.out hg;have HB:=Lib.hid ((BA.out.alloc BA.out.size _).grown hg (by have:=BA.out.size;simp;omega) (fun g2 e=>(OA.out.lt g2 e).1));clear ho2 hg hne))
   exact⟨⟨k+1,by omega,HO,HI,HB⟩,by simp[iterPos_of hit,iterPos_of HI];omega⟩
  ·have hnx:∀ty,(Instr.next (.pointer (some ⟨w.heap.size,0,none⟩)) true ty).run Tryz.prog wr=_:=fun ty=>Lib.run_next_end_at wr w.heap.size s k ty hit hlt
   go_wp2
   go_ret2
   have ho':=ho.out
   rw[List.take_of_length_le (by omega)]at ho'
   exact⟨_,rfl,ho',hb.out⟩
end
section
open Go.RowKit
section
variable {w0 w:World} {base c mb mcap shape:Nat} {msg:List Nat} {v:Value} {cw:List Nat} {pos ne:Int} {sym:Option (Nat×Nat)} {skip:Int}
theorem count_calls (h:Ctx w0 w base c mb mcap shape msg v cw pos ne sym skip) (h1:0<cw.length):
 Calls Tryz.prog 92 #[.pointer (some ⟨c,0,none⟩)] w fun e w'=>e= .returned (.int .i64 (cw.length:Nat))∧w'=w:=by
 obtain⟨g,cap,rfl⟩:=h.own.slice h1
 have k:=h.c4
 clear h
 go_enter Tryz.func92,Tryz.ntmps92
 go_wp2
 go_ret
 exact⟨rfl,rfl⟩
theorem upd93_calls {i:Nat} (h:Ctx w0 w base c mb mcap shape msg v cw pos ne none skip) (hs:shape<3) (hl:lookSym (cw.length:Int) shape=some i) (h1:0<cw.length):
 Calls Tryz.prog 93 #[.pointer (some ⟨c,0,none⟩)] w fun e w'=>e= .returned .nilIface∧∃b,Ctx w0 w' base c mb mcap shape msg v cw pos ne (some (i,b)) skip:=by
 go_enter Tryz.func93,Tryz.ntmps93
 go_wp2_with (first|(go_at_call 92;refine(count_calls h h1).mono ?_;rintro e w1 ⟨rfl,rfl⟩)|(go_at_call 130;refine(upd_calls h hs hl).mono ?_;rintro e w2 ⟨rfl,b,hc⟩;have HC:=Lib.hid hc;clear hc))
 go_ret
 exact⟨rfl,_,HC.out⟩
end
end
section
open Go.RowKit
section
variable {w0 w:World} {base c mb mcap shape:Nat} {msg:List Nat} {v:Value} {cw:List Nat} {pos ne:Int} {sym:Option (Nat×Nat)} {skip:Int}
theorem Ctx.updS (h:Ctx w0 w base c mb mcap shape msg v cw pos ne sym skip) {k:Nat} {u:Value} {shape':Nat}
 (e:(ctxC mb msg.length mcap shape v pos ne sym skip).setIfInBounds k u=ctxC mb msg.length mcap shape' v pos ne sym skip):
 Ctx w0 (w.setCell ⟨c,k,none⟩ u) base c mb mcap shape' msg v cw pos ne sym skip where
 blk:=by rw[heap_setCell_at h.blk,e]
 own:=h.own.set_ne (fun hg=>h.ne_c _ hg rfl) u
 byt:=h.byt.set_ne (by have:=h.b1;have:=h.b2;simp;omega) u
 below:=h.below.setCell (by have:=h.b0;have:=h.b1;simp;omega) u
 b0:=h.b0
 b1:=h.b1
 b2:=h.b2
 b3:=by have:=h.b3;simpa[World.setCell]using this
 syms:=fun i b hs=>by rw[Below.heap_setCell _ _ _ _ (by have:=(h.ne_s hs).1;simpa using this)];exact h.syms i b hs
theorem setShape_calls (h:Ctx w0 w base c mb mcap shape msg v cw pos ne sym skip) (sh:Nat):
 Calls Tryz.prog 83 #[.pointer (some ⟨c,0,none⟩),.int .i64 sh] w fun e w'=>e= .returned (.tuple #[])∧Ctx w0 w' base c mb mcap sh msg v cw pos ne sym skip:=by
 have k:=h.c1
 have f:=frozen_blk h.blk 1
 have S:=Lib.hid (h.updS (k:=1) (u:= .int .i64 sh) (shape':=sh) rfl)
 clear h
 go_enter Tryz.func83,Tryz.ntmps83
 go_wp2
 go_end0
 exact⟨rfl,S.out⟩
theorem setSize_calls (h:Ctx w0 w base c mb mcap shape msg v cw pos ne sym skip):
 Calls Tryz.prog 84 #[.pointer (some ⟨c,0,none⟩),.pointer none,.pointer none] w fun e w'=>e= .returned (.tuple #[])∧Ctx w0 w' base c mb mcap shape msg v cw pos ne sym skip:=by
 have h2:Ctx w0 (w.setCell ⟨c,2,none⟩ (.pointer none)) base c mb mcap shape msg v cw pos ne sym skip:=h.upd rfl
 have k:=h.c2
 have f:=frozen_blk h.blk 2
 have k3:=h2.c3
 have f3:=frozen_blk h2.blk 3
 have S:=Lib.hid (h2.updS (k:=3) (u:= .pointer none) (shape':=shape) rfl)
 clear h h2
 go_enter Tryz.func84,Tryz.ntmps84
 go_wp2
 go_end0
 exact⟨rfl,S.out⟩
end
end
end Go.Proofs.YtcnallabiffemaaGreatDoor
