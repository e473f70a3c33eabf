/- utah and the corners of the encoder's placement. -/
import Derived.Test.YtcnallabiffemaaGreatDoorZd
import Derived.Deep.RegionWith
set_option linter.unusedVariables false
set_option linter.unusedSimpArgs false
namespace Go.Proofs.YtcnallabiffemaaGreatDoor
section
open Go.RowKit
structure PMem (w0 w:World) (b bb cb cap:Nat) (rows cols:Nat) (cw:List Nat) (bits:List Int):Prop where
 blk:w.heap[b]? =some (.cells #[.slice (some ⟨cb,0,none⟩) cw.length cap,.int .i64 rows,.int .i64 cols,.slice (some ⟨bb,0,none⟩) bits.length bits.length] 138)
 row:Row w bb .i8 139 bits
 byt:Bytes w cb cw
 below:Below w0.heap.size w0 w
 base:w0.heap.size≤bb
 n1:b≠bb
 n2:cb≠bb
 len:bits.length=rows*cols
 r0:6≤rows
 r1:rows≤1000
 c0:6≤cols
 c1:cols≤1000
section
variable {w0 w:World} {b bb cb cap rows cols:Nat} {cw:List Nat} {bits:List Int}
theorem PMem.set (h:PMem w0 w b bb cb cap rows cols cw bits) (i:Nat) (v:Int):PMem w0 (w.setCell ⟨bb,i,none⟩ (.int .i8 v)) b bb cb cap rows cols cw (bits.set i v) where
 blk:=by rw[Below.heap_setCell _ _ _ _ h.n1,List.length_set];exact h.blk
 row:=h.row.set i v
 byt:=h.byt.set_ne h.n2 _
 below:=h.below.setCell h.base _
 base:=h.base
 n1:=h.n1
 n2:=h.n2
 len:=by rw[List.length_set];exact h.len
 r0:=h.r0
 r1:=h.r1
 c0:=h.c0
 c1:=h.c1
theorem PMem.drewN (h:PMem w0 w b bb cb cap rows cols cw bits) (n:Nat):PMem w0 (w.drewN n) b bb cb cap rows cols cw bits:=
 ⟨h.blk,h.row,h.byt.drewN n,below_dr h.below n,h.base,h.n1,h.n2,h.len,h.r0,h.r1,h.c0,h.c1⟩
theorem PMem.drew (h:PMem w0 w b bb cb cap rows cols cw bits):PMem w0 w.drew b bb cb cap rows cols cw bits:=h.drewN 1
theorem PMem.k0 (h:PMem w0 w b bb cb cap rows cols cw bits):w.cell? ⟨b,0,none⟩=some (.slice (some ⟨cb,0,none⟩) cw.length cap):=by rw[cell_blk h.blk];rfl
theorem PMem.k1 (h:PMem w0 w b bb cb cap rows cols cw bits):w.cell? ⟨b,1,none⟩=some (.int .i64 rows):=by rw[cell_blk h.blk];rfl
theorem PMem.k2 (h:PMem w0 w b bb cb cap rows cols cw bits):w.cell? ⟨b,2,none⟩=some (.int .i64 cols):=by rw[cell_blk h.blk];rfl
theorem PMem.k3 (h:PMem w0 w b bb cb cap rows cols cw bits):w.cell? ⟨b,3,none⟩=some (.slice (some ⟨bb,0,none⟩) bits.length bits.length):=by rw[cell_blk h.blk];rfl
end
def b2i (v:Bool):Int:=if v then 1 else 0
def PSet (w0:World) (b bb cb cap rows cols:Nat) (cw:List Nat) (bits:List Int) (e:Ending) (w':World):Prop:=e= .returned (.tuple #[])∧PMem w0 w' b bb cb cap rows cols cw bits
theorem setBit_calls (v:Bool) {w0 w:World} {b bb cb cap rows cols:Nat} {cw:List Nat} {bits:List Int} (h:PMem w0 w b bb cb cap rows cols cw bits)
 (col row:Int) (n:Nat) (hr0: -2000≤row) (hr1:row≤2000) (hc0: -2000≤col) (hc1:col≤2000) (hn:row*cols+col=(n:Int)) (hlt:n<bits.length):
 Calls Tryz.prog 107 #[.pointer (some ⟨b,0,none⟩),.int .i64 col,.int .i64 row,.bool v] w (PSet w0 b bb cb cap rows cols cw (bits.set n (b2i v))):=by
 have k2:=h.k2
 have k3:=h.k3
 have cx:=h.row.cell hlt
 have fx:=h.row.free n
 have hbl:bits.length≤1000000:=by rw[h.len];exact Nat.mul_le_mul h.r1 h.c1
 have hc:=h.c1
 have m1: -2000000≤row*(cols:Int)∧row*(cols:Int)≤2000000:=by
  have hcc:(cols:Int)≤1000:=by omega
  constructor
  ·have:=Int.mul_le_mul_of_nonneg_right hr0 (by omega:(0:Int)≤(cols:Int));have:=Int.mul_le_mul_of_nonneg_left hcc (by omega:(0:Int)≤2000);omega
  ·have:=Int.mul_le_mul_of_nonneg_right hr1 (by omega:(0:Int)≤(cols:Int));have:=Int.mul_le_mul_of_nonneg_left hcc (by omega:(0:Int)≤2000);omega
 obtain⟨m1,m2⟩:=m1
 have hS:=Lib.hid (h.set n (b2i v))
 clear h
 have i1:IntKind.i64.wrap (row*(cols:Int))=row*(cols:Int):=IntWalk.i64_in _ (by omega)
 have i2:IntKind.i64.wrap (row*(cols:Int)+col)=(n:Int):=by rw[hn];exact IntWalk.i64_in _ (by omega)
 clear hn
 cases v
 all_goals
  go_enter Tryz.func107,Tryz.ntmps107
  go_wp2
  go_region
  all_goals (go_wp2;go_end0;exact⟨rfl,hS.out.drew⟩)
end
section
open Go.RowKit
theorem mul_small {row cols:Int} (hr0: -2000≤row) (hr1:row≤2000) (h0:0≤cols) (h1:cols≤1000): -2000000≤row*cols∧row*cols≤2000000:=by
 constructor
 ·have:=Int.mul_le_mul_of_nonneg_right hr0 h0;have:=Int.mul_le_mul_of_nonneg_left h1 (by omega:(0:Int)≤2000);omega
 ·have:=Int.mul_le_mul_of_nonneg_right hr1 h0;have:=Int.mul_le_mul_of_nonneg_left h1 (by omega:(0:Int)≤2000);omega
theorem hasBit_calls {w0 w:World} {b bb cb cap rows cols:Nat} {cw:List Nat} {bits:List Int} (h:PMem w0 w b bb cb cap rows cols cw bits)
 (col row:Int) (n:Nat) (hr0: -2000≤row) (hr1:row≤2000) (hc0: -2000≤col) (hc1:col≤2000) (hn:row*cols+col=(n:Int)) (hlt:n<bits.length):
 Calls Tryz.prog 105 #[.pointer (some ⟨b,0,none⟩),.int .i64 col,.int .i64 row] w fun e w'=>e= .returned (.bool (decide (0≤bits.getD n 0)))∧∃m,w'=w.drewN m:=by
 have k2:=h.k2
 have k3:=h.k3
 have cx:=h.row.cell hlt
 have hbl:bits.length≤1000000:=by rw[h.len];exact Nat.mul_le_mul h.r1 h.c1
 have hc:=h.c1
 obtain⟨m1,m2⟩:=mul_small hr0 hr1 (by omega:(0:Int)≤(cols:Int)) (by omega)
 clear h
 generalize bits.getD n 0=x at*
 have i1:IntKind.i64.wrap (row*(cols:Int))=row*(cols:Int):=IntWalk.i64_in _ (by omega)
 have i2:IntKind.i64.wrap (row*(cols:Int)+col)=(n:Int):=by rw[hn];exact IntWalk.i64_in _ (by omega)
 clear hn
 go_enter Tryz.func105,Tryz.ntmps105
 go_wp2
 go_quiet (fail)
 go_wp2
 go_ret
 exact⟨rfl,_,rfl⟩
theorem getBit_calls {w0 w:World} {b bb cb cap rows cols:Nat} {cw:List Nat} {bits:List Int} (h:PMem w0 w b bb cb cap rows cols cw bits)
 (col row:Int) (n:Nat) (hr0: -2000≤row) (hr1:row≤2000) (hc0: -2000≤col) (hc1:col≤2000) (hn:row*cols+col=(n:Int)) (hlt:n<bits.length):
 Calls Tryz.prog 56 #[.pointer (some ⟨b,0,none⟩),.int .i64 col,.int .i64 row] w fun e w'=>e= .returned (.bool (bits.getD n 0==1))∧∃m,w'=w.drewN m:=by
 have k2:=h.k2
 have k3:=h.k3
 have cx:=h.row.cell hlt
 have hbl:bits.length≤1000000:=by rw[h.len];exact Nat.mul_le_mul h.r1 h.c1
 have hc:=h.c1
 obtain⟨m1,m2⟩:=mul_small hr0 hr1 (by omega:(0:Int)≤(cols:Int)) (by omega)
 clear h
 generalize bits.getD n 0=x at*
 have i1:IntKind.i64.wrap (row*(cols:Int))=row*(cols:Int):=IntWalk.i64_in _ (by omega)
 have i2:IntKind.i64.wrap (row*(cols:Int)+col)=(n:Int):=by rw[hn];exact IntWalk.i64_in _ (by omega)
 clear hn
 go_enter Tryz.func56,Tryz.ntmps56
 go_wp2
 go_quiet (fail)
 go_wp2
 go_ret
 exact⟨rfl,_,rfl⟩
def wrapC (cols:Nat) (r c:Int):Int×Int:=if c<0 then(r+(4-((cols:Int)+4)%8),c+cols)else(r,c)
def wrapR (rows cols:Nat) (row col:Int):Int×Int:=if row<0 then wrapC cols (row+rows) (col+(4-((rows:Int)+4)%8))else wrapC cols row col
def idxR (rows cols:Nat) (row col:Int):Int:=(wrapR rows cols row col).1*cols+(wrapR rows cols row col).2
def bitOf (c bit:Nat):Bool:=c.testBit (8-bit)
theorem and_bit:∀c:Nat,c<256→(bits .and .u8 (c:Int) 128 !=0)=bitOf c 1∧(bits .and .u8 (c:Int) 64 !=0)=bitOf c 2∧(bits .and .u8 (c:Int) 32 !=0)=bitOf c 3∧(bits .and .u8 (c:Int) 16 !=0)=bitOf c 4∧
 (bits .and .u8 (c:Int) 8 !=0)=bitOf c 5∧(bits .and .u8 (c:Int) 4 !=0)=bitOf c 6∧(bits .and .u8 (c:Int) 2 !=0)=bitOf c 7∧(bits .and .u8 (c:Int) 1 !=0)=bitOf c 8:=by decide+kernel
theorem idx_of {rows cols:Nat} {row col r c:Int} {n:Nat} (h:idxR rows cols row col=(n:Int)) (hw:wrapR rows cols row col=(r,c)):r*cols+c=(n:Int):=by
 rw[idxR,hw]at h;exact h
theorem module_calls1 {w0 w:World} {b bb cb cap rows cols:Nat} {cw:List Nat} {bits:List Int} (h:PMem w0 w b bb cb cap rows cols cw bits) (hs:Small cw)
 (row col:Int) (pos n:Nat) (hr0: -10≤row) (hr1:row≤1000) (hc0: -10≤col) (hc1:col≤1000) (hn:idxR rows cols row col=(n:Int)) (hlt:n<bits.length) (hpos:pos<cw.length) (hcl:cw.length≤4000):
 Calls Tryz.prog 132 #[.pointer (some ⟨b,0,none⟩),.int .i64 row,.int .i64 col,.int .i64 pos,.int .i64 1] w (PSet w0 b bb cb cap rows cols cw (bits.set n (b2i (bitOf (cw.getD pos 0) 1)))):=by
 have k0:=h.k0
 have k1:=h.k1
 have k2:=h.k2
 have b1:=h.r1
 have b2:=h.c1
 have cx:=h.byt.2 pos hpos
 have hsm:=hs pos
 obtain⟨e1,e2,e3,e4,e5,e6,e7,e8⟩:=and_bit _ hsm
 have H:=Lib.hid h
 have HN:=Lib.hid hn
 clear h hn
 generalize cw.getD pos 0=c at*
 by_cases hr:row<0
 all_goals
  go_enter Tryz.func132,Tryz.ntmps132
  go_wp2_with (go_at_call 107;refine(setBit_calls _ H.out _ _ n (by omega) (by omega) (by omega) (by omega) (idx_of HN.out (by unfold wrapR;(first|rw[if_pos (by omega)]|rw[if_neg (by omega)]);unfold wrapC;(first|rw[if_pos (by omega)]|rw[if_neg (by omega)]))) hlt).mono ?_;rintro e w' ⟨rfl,hp⟩)
  all_goals (go_end0;exact⟨rfl,hp⟩)
theorem module_calls2 {w0 w:World} {b bb cb cap rows cols:Nat} {cw:List Nat} {bits:List Int} (h:PMem w0 w b bb cb cap rows cols cw bits) (hs:Small cw)
 (row col:Int) (pos n:Nat) (hr0: -10≤row) (hr1:row≤1000) (hc0: -10≤col) (hc1:col≤1000) (hn:idxR rows cols row col=(n:Int)) (hlt:n<bits.length) (hpos:pos<cw.length) (hcl:cw.length≤4000):
 Calls Tryz.prog 132 #[.pointer (some ⟨b,0,none⟩),.int .i64 row,.int .i64 col,.int .i64 pos,.int .i64 2] w (PSet w0 b bb cb cap rows cols cw (bits.set n (b2i (bitOf (cw.getD pos 0) 2)))):=by
 have k0:=h.k0
 have k1:=h.k1
 have k2:=h.k2
 have b1:=h.r1
 have b2:=h.c1
 have cx:=h.byt.2 pos hpos
 have hsm:=hs pos
 obtain⟨e1,e2,e3,e4,e5,e6,e7,e8⟩:=and_bit _ hsm
 have H:=Lib.hid h
 have HN:=Lib.hid hn
 clear h hn
 generalize cw.getD pos 0=c at*
 by_cases hr:row<0
 all_goals
  go_enter Tryz.func132,Tryz.ntmps132
  go_wp2_with (go_at_call 107;refine(setBit_calls _ H.out _ _ n (by omega) (by omega) (by omega) (by omega) (idx_of HN.out (by unfold wrapR;(first|rw[if_pos (by omega)]|rw[if_neg (by omega)]);unfold wrapC;(first|rw[if_pos (by omega)]|rw[if_neg (by omega)]))) hlt).mono ?_;rintro e w' ⟨rfl,hp⟩)
  all_goals (go_end0;exact⟨rfl,hp⟩)
theorem module_calls3 {w0 w:World} {b bb cb cap rows cols:Nat} {cw:List Nat} {bits:List Int} (h:PMem w0 w b bb cb cap rows cols cw bits) (hs:Small cw)
 (row col:Int) (pos n:Nat) (hr0: -10≤row) (hr1:row≤1000) (hc0: -10≤col) (hc1:col≤1000) (hn:idxR rows cols row col=(n:Int)) (hlt:n<bits.length) (hpos:pos<cw.length) (hcl:cw.length≤4000):
 Calls Tryz.prog 132 #[.pointer (some ⟨b,0,none⟩),.int .i64 row,.int .i64 col,.int .i64 pos,.int .i64 3] w (PSet w0 b bb cb cap rows cols cw (bits.set n (b2i (bitOf (cw.getD pos 0) 3)))):=by
 have k0:=h.k0
 have k1:=h.k1
 have k2:=h.k2
 have b1:=h.r1
 have b2:=h.c1
 have cx:=h.byt.2 pos hpos
 have hsm:=hs pos
 obtain⟨e1,e2,e3,e4,e5,e6,e7,e8⟩:=and_bit _ hsm
 have H:=Lib.hid h
 have HN:=Lib.hid hn
 clear h hn
 generalize cw.getD pos 0=c at*
 by_cases hr:row<0
 all_goals
  go_enter Tryz.func132,Tryz.ntmps132
  go_wp2_with (go_at_call 107;refine(setBit_calls _ H.out _ _ n (by omega) (by omega) (by omega) (by omega) (idx_of HN.out (by unfold wrapR;(first|rw[if_pos (by omega)]|rw[if_neg (by omega)]);unfold wrapC;(first|rw[if_pos (by omega)]|rw[if_neg (by omega)]))) hlt).mono ?_;rintro e w' ⟨rfl,hp⟩)
  all_goals (go_end0;exact⟨rfl,hp⟩)
theorem module_calls4 {w0 w:World} {b bb cb cap rows cols:Nat} {cw:List Nat} {bits:List Int} (h:PMem w0 w b bb cb cap rows cols cw bits) (hs:Small cw)
 (row col:Int) (pos n:Nat) (hr0: -10≤row) (hr1:row≤1000) (hc0: -10≤col) (hc1:col≤1000) (hn:idxR rows cols row col=(n:Int)) (hlt:n<bits.length) (hpos:pos<cw.length) (hcl:cw.length≤4000):
 Calls Tryz.prog 132 #[.pointer (some ⟨b,0,none⟩),.int .i64 row,.int .i64 col,.int .i64 pos,.int .i64 4] w (PSet w0 b bb cb cap rows cols cw (bits.set n (b2i (bitOf (cw.getD pos 0) 4)))):=by
 have k0:=h.k0
 have k1:=h.k1
 have k2:=h.k2
 have b1:=h.r1
 have b2:=h.c1
 have cx:=h.byt.2 pos hpos
 have hsm:=hs pos
 obtain⟨e1,e2,e3,e4,e5,e6,e7,e8⟩:=and_bit _ hsm
 have H:=Lib.hid h
 have HN:=Lib.hid hn
 clear h hn
 generalize cw.getD pos 0=c at*
 by_cases hr:row<0
 all_goals
  go_enter Tryz.func132,Tryz.ntmps132
  go_wp2_with (go_at_call 107;refine(setBit_calls _ H.out _ _ n (by omega) (by omega) (by omega) (by omega) (idx_of HN.out (by unfold wrapR;(first|rw[if_pos (by omega)]|rw[if_neg (by omega)]);unfold wrapC;(first|rw[if_pos (by omega)]|rw[if_neg (by omega)]))) hlt).mono ?_;rintro e w' ⟨rfl,hp⟩)
  all_goals (go_end0;exact⟨rfl,hp⟩)
theorem module_calls5 {w0 w:World} {b bb cb cap rows cols:Nat} {cw:List Nat} {bits:List Int} (h:PMem w0 w b bb cb cap rows cols cw bits) (hs:Small cw)
 (row col:Int) (pos n:Nat) (hr0: -10≤row) (hr1:row≤1000) (hc0: -10≤col) (hc1:col≤1000) (hn:idxR rows cols row col=(n:Int)) (hlt:n<bits.length) (hpos:pos<cw.length) (hcl:cw.length≤4000):
 Calls Tryz.prog 132 #[.pointer (some ⟨b,0,none⟩),.int .i64 row,.int .i64 col,.int .i64 pos,.int .i64 5] w (PSet w0 b bb cb cap rows cols cw (bits.set n (b2i (bitOf (cw.getD pos 0) 5)))):=by
 have k0:=h.k0
 have k1:=h.k1
 have k2:=h.k2
 have b1:=h.r1
 have b2:=h.c1
 have cx:=h.byt.2 pos hpos
 have hsm:=hs pos
 obtain⟨e1,e2,e3,e4,e5,e6,e7,e8⟩:=and_bit _ hsm
 have H:=Lib.hid h
 have HN:=Lib.hid hn
 clear h hn
 generalize cw.getD pos 0=c at*
 by_cases hr:row<0
 all_goals
  go_enter Tryz.func132,Tryz.ntmps132
  go_wp2_with (go_at_call 107;refine(setBit_calls _ H.out _ _ n (by omega) (by omega) (by omega) (by omega) (idx_of HN.out (by unfold wrapR;(first|rw[if_pos (by omega)]|rw[if_neg (by omega)]);unfold wrapC;(first|rw[if_pos (by omega)]|rw[if_neg (by omega)]))) hlt).mono ?_;rintro e w' ⟨rfl,hp⟩)
  all_goals (go_end0;exact⟨rfl,hp⟩)
theorem module_calls6 {w0 w:World} {b bb cb cap rows cols:Nat} {cw:List Nat} {bits:List Int} (h:PMem w0 w b bb cb cap rows cols cw bits) (hs:Small cw)
 (row col:Int) (pos n:Nat) (hr0: -10≤row) (hr1:row≤1000) (hc0: -10≤col) (hc1:col≤1000) (hn:idxR rows cols row col=(n:Int)) (hlt:n<bits.length) (hpos:pos<cw.length) (hcl:cw.length≤4000):
 Calls Tryz.prog 132 #[.pointer (some ⟨b,0,none⟩),.int .i64 row,.int .i64 col,.int .i64 pos,.int .i64 6] w (PSet w0 b bb cb cap rows cols cw (bits.set n (b2i (bitOf (cw.getD pos 0) 6)))):=by
 have k0:=h.k0
 have k1:=h.k1
 have k2:=h.k2
 have b1:=h.r1
 have b2:=h.c1
 have cx:=h.byt.2 pos hpos
 have hsm:=hs pos
 obtain⟨e1,e2,e3,e4,e5,e6,e7,e8⟩:=and_bit _ hsm
 have H:=Lib.hid h
 have HN:=Lib.hid hn
 clear h hn
 generalize cw.getD pos 0=c at*
 by_cases hr:row<0
 all_goals
  go_enter Tryz.func132,Tryz.ntmps132
  go_wp2_with (go_at_call 107;refine(setBit_calls _ H.out _ _ n (by omega) (by omega) (by omega) (by omega) (idx_of HN.out (by unfold wrapR;(first|rw[if_pos (by omega)]|rw[if_neg (by omega)]);unfold wrapC;(first|rw[if_pos (by omega)]|rw[if_neg (by omega)]))) hlt).mono ?_;rintro e w' ⟨rfl,hp⟩)
  all_goals (go_end0;exact⟨rfl,hp⟩)
theorem module_calls7 {w0 w:World} {b bb cb cap rows cols:Nat} {cw:List Nat} {bits:List Int} (h:PMem w0 w b bb cb cap rows cols cw bits) (hs:Small cw)
 (row col:Int) (pos n:Nat) (hr0: -10≤row) (hr1:row≤1000) (hc0: -10≤col) (hc1:col≤1000) (hn:idxR rows cols row col=(n:Int)) (hlt:n<bits.length) (hpos:pos<cw.length) (hcl:cw.length≤4000):
 Calls Tryz.prog 132 #[.pointer (some ⟨b,0,none⟩),.int .i64 row,.int .i64 col,.int .i64 pos,.int .i64 7] w (PSet w0 b bb cb cap rows cols cw (bits.set n (b2i (bitOf (cw.getD pos 0) 7)))):=by
 have k0:=h.k0
 have k1:=h.k1
 have k2:=h.k2
 have b1:=h.r1
 have b2:=h.c1
 have cx:=h.byt.2 pos hpos
 have hsm:=hs pos
 obtain⟨e1,e2,e3,e4,e5,e6,e7,e8⟩:=and_bit _ hsm
 have H:=Lib.hid h
 have HN:=Lib.hid hn
 clear h hn
 generalize cw.getD pos 0=c at*
 by_cases hr:row<0
 all_goals
  go_enter Tryz.func132,Tryz.ntmps132
  go_wp2_with (go_at_call 107;refine(setBit_calls _ H.out _ _ n (by omega) (by omega) (by omega) (by omega) (idx_of HN.out (by unfold wrapR;(first|rw[if_pos (by omega)]|rw[if_neg (by omega)]);unfold wrapC;(first|rw[if_pos (by omega)]|rw[if_neg (by omega)]))) hlt).mono ?_;rintro e w' ⟨rfl,hp⟩)
  all_goals (go_end0;exact⟨rfl,hp⟩)
theorem module_calls8 {w0 w:World} {b bb cb cap rows cols:Nat} {cw:List Nat} {bits:List Int} (h:PMem w0 w b bb cb cap rows cols cw bits) (hs:Small cw)
 (row col:Int) (pos n:Nat) (hr0: -10≤row) (hr1:row≤1000) (hc0: -10≤col) (hc1:col≤1000) (hn:idxR rows cols row col=(n:Int)) (hlt:n<bits.length) (hpos:pos<cw.length) (hcl:cw.length≤4000):
 Calls Tryz.prog 132 #[.pointer (some ⟨b,0,none⟩),.int .i64 row,.int .i64 col,.int .i64 pos,.int .i64 8] w (PSet w0 b bb cb cap rows cols cw (bits.set n (b2i (bitOf (cw.getD pos 0) 8)))):=by
 have k0:=h.k0
 have k1:=h.k1
 have k2:=h.k2
 have b1:=h.r1
 have b2:=h.c1
 have cx:=h.byt.2 pos hpos
 have hsm:=hs pos
 obtain⟨e1,e2,e3,e4,e5,e6,e7,e8⟩:=and_bit _ hsm
 have H:=Lib.hid h
 have HN:=Lib.hid hn
 clear h hn
 generalize cw.getD pos 0=c at*
 by_cases hr:row<0
 all_goals
  go_enter Tryz.func132,Tryz.ntmps132
  go_wp2_with (go_at_call 107;refine(setBit_calls _ H.out _ _ n (by omega) (by omega) (by omega) (by omega) (idx_of HN.out (by unfold wrapR;(first|rw[if_pos (by omega)]|rw[if_neg (by omega)]);unfold wrapC;(first|rw[if_pos (by omega)]|rw[if_neg (by omega)]))) hlt).mono ?_;rintro e w' ⟨rfl,hp⟩)
  all_goals (go_end0;exact⟨rfl,hp⟩)
end
section
open Go.RowKit
structure InR (rows cols:Nat) (p:Int×Int):Prop where
 r0: -10≤p.1
 r1:p.1≤1000
 c0: -10≤p.2
 c1:p.2≤1000
 i0:0≤idxR rows cols p.1 p.2
 i1:idxR rows cols p.1 p.2<(rows*cols:Nat)
def setM (rows cols:Nat) (cw:List Nat) (pos k:Nat) (bits:List Int) (p:Int×Int):List Int:=bits.set (idxR rows cols p.1 p.2).toNat (b2i (bitOf (cw.getD pos 0) k))
def set8 (rows cols:Nat) (cw:List Nat) (pos:Nat) (bits:List Int) (p1 p2 p3 p4 p5 p6 p7 p8:Int×Int):List Int:=
 setM rows cols cw pos 8 (setM rows cols cw pos 7 (setM rows cols cw pos 6 (setM rows cols cw pos 5 (setM rows cols cw pos 4 (setM rows cols cw pos 3 (setM rows cols cw pos 2 (setM rows cols cw pos 1 bits p1) p2) p3) p4) p5) p6) p7) p8
theorem mod1 {w0 w:World} {b bb cb cap rows cols:Nat} {cw:List Nat} {bits:List Int} (h:PMem w0 w b bb cb cap rows cols cw bits) (hs:Small cw) (row col:Int) (pos:Nat) (hi:InR rows cols (row,col)) (hpos:pos<cw.length) (hcl:cw.length≤4000):
 Calls Tryz.prog 132 #[.pointer (some ⟨b,0,none⟩),.int .i64 row,.int .i64 col,.int .i64 pos,.int .i64 1] w (PSet w0 b bb cb cap rows cols cw (setM rows cols cw pos 1 bits (row,col))):=
 module_calls1 h hs row col pos (idxR rows cols row col).toNat hi.r0 hi.r1 hi.c0 hi.c1 (Int.toNat_of_nonneg hi.i0).symm (by rw[h.len];have:=hi.i1;have:=hi.i0;simp only at *; omega) hpos hcl
theorem mod2 {w0 w:World} {b bb cb cap rows cols:Nat} {cw:List Nat} {bits:List Int} (h:PMem w0 w b bb cb cap rows cols cw bits) (hs:Small cw) (row col:Int) (pos:Nat) (hi:InR rows cols (row,col)) (hpos:pos<cw.length) (hcl:cw.length≤4000):
 Calls Tryz.prog 132 #[.pointer (some ⟨b,0,none⟩),.int .i64 row,.int .i64 col,.int .i64 pos,.int .i64 2] w (PSet w0 b bb cb cap rows cols cw (setM rows cols cw pos 2 bits (row,col))):=
 module_calls2 h hs row col pos (idxR rows cols row col).toNat hi.r0 hi.r1 hi.c0 hi.c1 (Int.toNat_of_nonneg hi.i0).symm (by rw[h.len];have:=hi.i1;have:=hi.i0;simp only at *; omega) hpos hcl
theorem mod3 {w0 w:World} {b bb cb cap rows cols:Nat} {cw:List Nat} {bits:List Int} (h:PMem w0 w b bb cb cap rows cols cw bits) (hs:Small cw) (row col:Int) (pos:Nat) (hi:InR rows cols (row,col)) (hpos:pos<cw.length) (hcl:cw.length≤4000):
 Calls Tryz.prog 132 #[.pointer (some ⟨b,0,none⟩),.int .i64 row,.int .i64 col,.int .i64 pos,.int .i64 3] w (PSet w0 b bb cb cap rows cols cw (setM rows cols cw pos 3 bits (row,col))):=
 module_calls3 h hs row col pos (idxR rows cols row col).toNat hi.r0 hi.r1 hi.c0 hi.c1 (Int.toNat_of_nonneg hi.i0).symm (by rw[h.len];have:=hi.i1;have:=hi.i0;simp only at *; omega) hpos hcl
theorem mod4 {w0 w:World} {b bb cb cap rows cols:Nat} {cw:List Nat} {bits:List Int} (h:PMem w0 w b bb cb cap rows cols cw bits) (hs:Small cw) (row col:Int) (pos:Nat) (hi:InR rows cols (row,col)) (hpos:pos<cw.length) (hcl:cw.length≤4000):
 Calls Tryz.prog 132 #[.pointer (some ⟨b,0,none⟩),.int .i64 row,.int .i64 col,.int .i64 pos,.int .i64 4] w (PSet w0 b bb cb cap rows cols cw (setM rows cols cw pos 4 bits (row,col))):=
 module_calls4 h hs row col pos (idxR rows cols row col).toNat hi.r0 hi.r1 hi.c0 hi.c1 (Int.toNat_of_nonneg hi.i0).symm (by rw[h.len];have:=hi.i1;have:=hi.i0;simp only at *; omega) hpos hcl
theorem mod5 {w0 w:World} {b bb cb cap rows cols:Nat} {cw:List Nat} {bits:List Int} (h:PMem w0 w b bb cb cap rows cols cw bits) (hs:Small cw) (row col:Int) (pos:Nat) (hi:InR rows cols (row,col)) (hpos:pos<cw.length) (hcl:cw.length≤4000):
 Calls Tryz.prog 132 #[.pointer (some ⟨b,0,none⟩),.int .i64 row,.int .i64 col,.int .i64 pos,.int .i64 5] w (PSet w0 b bb cb cap rows cols cw (setM rows cols cw pos 5 bits (row,col))):=
 module_calls5 h hs row col pos (idxR rows cols row col).toNat hi.r0 hi.r1 hi.c0 hi.c1 (Int.toNat_of_nonneg hi.i0).symm (by rw[h.len];have:=hi.i1;have:=hi.i0;simp only at *; omega) hpos hcl
theorem mod6 {w0 w:World} {b bb cb cap rows cols:Nat} {cw:List Nat} {bits:List Int} (h:PMem w0 w b bb cb cap rows cols cw bits) (hs:Small cw) (row col:Int) (pos:Nat) (hi:InR rows cols (row,col)) (hpos:pos<cw.length) (hcl:cw.length≤4000):
 Calls Tryz.prog 132 #[.pointer (some ⟨b,0,none⟩),.int .i64 row,.int .i64 col,.int .i64 pos,.int .i64 6] w (PSet w0 b bb cb cap rows cols cw (setM rows cols cw pos 6 bits (row,col))):=
 module_calls6 h hs row col pos (idxR rows cols row col).toNat hi.r0 hi.r1 hi.c0 hi.c1 (Int.toNat_of_nonneg hi.i0).symm (by rw[h.len];have:=hi.i1;have:=hi.i0;simp only at *; omega) hpos hcl
theorem mod7 {w0 w:World} {b bb cb cap rows cols:Nat} {cw:List Nat} {bits:List Int} (h:PMem w0 w b bb cb cap rows cols cw bits) (hs:Small cw) (row col:Int) (pos:Nat) (hi:InR rows cols (row,col)) (hpos:pos<cw.length) (hcl:cw.length≤4000):
 Calls Tryz.prog 132 #[.pointer (some ⟨b,0,none⟩),.int .i64 row,.int .i64 col,.int .i64 pos,.int .i64 7] w (PSet w0 b bb cb cap rows cols cw (setM rows cols cw pos 7 bits (row,col))):=
 module_calls7 h hs row col pos (idxR rows cols row col).toNat hi.r0 hi.r1 hi.c0 hi.c1 (Int.toNat_of_nonneg hi.i0).symm (by rw[h.len];have:=hi.i1;have:=hi.i0;simp only at *; omega) hpos hcl
theorem mod8 {w0 w:World} {b bb cb cap rows cols:Nat} {cw:List Nat} {bits:List Int} (h:PMem w0 w b bb cb cap rows cols cw bits) (hs:Small cw) (row col:Int) (pos:Nat) (hi:InR rows cols (row,col)) (hpos:pos<cw.length) (hcl:cw.length≤4000):
 Calls Tryz.prog 132 #[.pointer (some ⟨b,0,none⟩),.int .i64 row,.int .i64 col,.int .i64 pos,.int .i64 8] w (PSet w0 b bb cb cap rows cols cw (setM rows cols cw pos 8 bits (row,col))):=
 module_calls8 h hs row col pos (idxR rows cols row col).toNat hi.r0 hi.r1 hi.c0 hi.c1 (Int.toNat_of_nonneg hi.i0).symm (by rw[h.len];have:=hi.i1;have:=hi.i0;simp only at *; omega) hpos hcl
theorem utah_calls {w0 w:World} {b bb cb cap rows cols:Nat} {cw:List Nat} {bits:List Int} (h:PMem w0 w b bb cb cap rows cols cw bits) (hs:Small cw) (row col:Int) (pos:Nat)
 (h1:InR rows cols (row-2,col-2))
 (h2:InR rows cols (row-2,col-1))
 (h3:InR rows cols (row-1,col-2))
 (h4:InR rows cols (row-1,col-1))
 (h5:InR rows cols (row-1,col))
 (h6:InR rows cols (row,col-2))
 (h7:InR rows cols (row,col-1))
 (h8:InR rows cols (row,col))
 (hr0:0≤row) (hr1:row≤1000) (hc0:0≤col) (hc1:col≤1000) (hpos:pos<cw.length) (hcl:cw.length≤4000):
 Calls Tryz.prog 106 #[.pointer (some ⟨b,0,none⟩),.int .i64 row,.int .i64 col,.int .i64 pos] w (PSet w0 b bb cb cap rows cols cw (set8 rows cols cw pos bits (row-2,col-2) (row-2,col-1) (row-1,col-2) (row-1,col-1) (row-1,col) (row,col-2) (row,col-1) (row,col))):=by
 have k1:=h.k1
 have k2:=h.k2
 have q1:=h.r0
 have q2:=h.r1
 have q3:=h.c0
 have q4:=h.c1
 have H0:=Lib.hid h
 clear h
 go_enter Tryz.func106,Tryz.ntmps106
 go_wp2_with fail
 refine(mod1 H0.out hs _ _ pos h1 hpos hcl).mono ?_
 rintro e w1 ⟨rfl,hp1⟩
 have k1:=hp1.k1
 have k2:=hp1.k2
 have H1:=Lib.hid hp1
 clear hp1
 go_wp2_with fail
 refine(mod2 H1.out hs _ _ pos h2 hpos hcl).mono ?_
 rintro e w2 ⟨rfl,hp2⟩
 have k1:=hp2.k1
 have k2:=hp2.k2
 have H2:=Lib.hid hp2
 clear hp2
 go_wp2_with fail
 refine(mod3 H2.out hs _ _ pos h3 hpos hcl).mono ?_
 rintro e w3 ⟨rfl,hp3⟩
 have k1:=hp3.k1
 have k2:=hp3.k2
 have H3:=Lib.hid hp3
 clear hp3
 go_wp2_with fail
 refine(mod4 H3.out hs _ _ pos h4 hpos hcl).mono ?_
 rintro e w4 ⟨rfl,hp4⟩
 have k1:=hp4.k1
 have k2:=hp4.k2
 have H4:=Lib.hid hp4
 clear hp4
 go_wp2_with fail
 refine(mod5 H4.out hs _ _ pos h5 hpos hcl).mono ?_
 rintro e w5 ⟨rfl,hp5⟩
 have k1:=hp5.k1
 have k2:=hp5.k2
 have H5:=Lib.hid hp5
 clear hp5
 go_wp2_with fail
 refine(mod6 H5.out hs _ _ pos h6 hpos hcl).mono ?_
 rintro e w6 ⟨rfl,hp6⟩
 have k1:=hp6.k1
 have k2:=hp6.k2
 have H6:=Lib.hid hp6
 clear hp6
 go_wp2_with fail
 refine(mod7 H6.out hs _ _ pos h7 hpos hcl).mono ?_
 rintro e w7 ⟨rfl,hp7⟩
 have k1:=hp7.k1
 have k2:=hp7.k2
 have H7:=Lib.hid hp7
 clear hp7
 go_wp2_with fail
 refine(mod8 H7.out hs _ _ pos h8 hpos hcl).mono ?_
 rintro e w8 ⟨rfl,hp8⟩
 have k1:=hp8.k1
 have k2:=hp8.k2
 have H8:=Lib.hid hp8
 clear hp8
 go_wp2_with fail
 go_end0
 exact⟨rfl,H8.out⟩
theorem corner1_calls {w0 w:World} {b bb cb cap rows cols:Nat} {cw:List Nat} {bits:List Int} (h:PMem w0 w b bb cb cap rows cols cw bits) (hs:Small cw) (pos:Nat)
 (h1:InR rows cols ((rows:Int)-1,0))
 (h2:InR rows cols ((rows:Int)-1,1))
 (h3:InR rows cols ((rows:Int)-1,2))
 (h4:InR rows cols (0,(cols:Int)-2))
 (h5:InR rows cols (0,(cols:Int)-1))
 (h6:InR rows cols (1,(cols:Int)-1))
 (h7:InR rows cols (2,(cols:Int)-1))
 (h8:InR rows cols (3,(cols:Int)-1))
 (hpos:pos<cw.length) (hcl:cw.length≤4000):
 Calls Tryz.prog 101 #[.pointer (some ⟨b,0,none⟩),.int .i64 pos] w (PSet w0 b bb cb cap rows cols cw (set8 rows cols cw pos bits ((rows:Int)-1,0) ((rows:Int)-1,1) ((rows:Int)-1,2) (0,(cols:Int)-2) (0,(cols:Int)-1) (1,(cols:Int)-1) (2,(cols:Int)-1) (3,(cols:Int)-1))):=by
 have k1:=h.k1
 have k2:=h.k2
 have q1:=h.r0
 have q2:=h.r1
 have q3:=h.c0
 have q4:=h.c1
 have H0:=Lib.hid h
 clear h
 go_enter Tryz.func101,Tryz.ntmps101
 go_wp2_with fail
 refine(mod1 H0.out hs _ _ pos h1 hpos hcl).mono ?_
 rintro e w1 ⟨rfl,hp1⟩
 have k1:=hp1.k1
 have k2:=hp1.k2
 have H1:=Lib.hid hp1
 clear hp1
 go_wp2_with fail
 refine(mod2 H1.out hs _ _ pos h2 hpos hcl).mono ?_
 rintro e w2 ⟨rfl,hp2⟩
 have k1:=hp2.k1
 have k2:=hp2.k2
 have H2:=Lib.hid hp2
 clear hp2
 go_wp2_with fail
 refine(mod3 H2.out hs _ _ pos h3 hpos hcl).mono ?_
 rintro e w3 ⟨rfl,hp3⟩
 have k1:=hp3.k1
 have k2:=hp3.k2
 have H3:=Lib.hid hp3
 clear hp3
 go_wp2_with fail
 refine(mod4 H3.out hs _ _ pos h4 hpos hcl).mono ?_
 rintro e w4 ⟨rfl,hp4⟩
 have k1:=hp4.k1
 have k2:=hp4.k2
 have H4:=Lib.hid hp4
 clear hp4
 go_wp2_with fail
 refine(mod5 H4.out hs _ _ pos h5 hpos hcl).mono ?_
 rintro e w5 ⟨rfl,hp5⟩
 have k1:=hp5.k1
 have k2:=hp5.k2
 have H5:=Lib.hid hp5
 clear hp5
 go_wp2_with fail
 refine(mod6 H5.out hs _ _ pos h6 hpos hcl).mono ?_
 rintro e w6 ⟨rfl,hp6⟩
 have k1:=hp6.k1
 have k2:=hp6.k2
 have H6:=Lib.hid hp6
 clear hp6
 go_wp2_with fail
 refine(mod7 H6.out hs _ _ pos h7 hpos hcl).mono ?_
 rintro e w7 ⟨rfl,hp7⟩
 have k1:=hp7.k1
 have k2:=hp7.k2
 have H7:=Lib.hid hp7
 clear hp7
 go_wp2_with fail
 refine(mod8 H7.out hs _ _ pos h8 hpos hcl).mono ?_
 rintro e w8 ⟨rfl,hp8⟩
 have k1:=hp8.k1
 have k2:=hp8.k2
 have H8:=Lib.hid hp8
 clear hp8
 go_wp2_with fail
 go_end0
 exact⟨rfl,H8.out⟩
theorem corner2_calls {w0 w:World} {b bb cb cap rows cols:Nat} {cw:List Nat} {bits:List Int} (h:PMem w0 w b bb cb cap rows cols cw bits) (hs:Small cw) (pos:Nat)
 (h1:InR rows cols ((rows:Int)-3,0))
 (h2:InR rows cols ((rows:Int)-2,0))
 (h3:InR rows cols ((rows:Int)-1,0))
 (h4:InR rows cols (0,(cols:Int)-4))
 (h5:InR rows cols (0,(cols:Int)-3))
 (h6:InR rows cols (0,(cols:Int)-2))
 (h7:InR rows cols (0,(cols:Int)-1))
 (h8:InR rows cols (1,(cols:Int)-1))
 (hpos:pos<cw.length) (hcl:cw.length≤4000):
 Calls Tryz.prog 102 #[.pointer (some ⟨b,0,none⟩),.int .i64 pos] w (PSet w0 b bb cb cap rows cols cw (set8 rows cols cw pos bits ((rows:Int)-3,0) ((rows:Int)-2,0) ((rows:Int)-1,0) (0,(cols:Int)-4) (0,(cols:Int)-3) (0,(cols:Int)-2) (0,(cols:Int)-1) (1,(cols:Int)-1))):=by
 have k1:=h.k1
 have k2:=h.k2
 have q1:=h.r0
 have q2:=h.r1
 have q3:=h.c0
 have q4:=h.c1
 have H0:=Lib.hid h
 clear h
 go_enter Tryz.func102,Tryz.ntmps102
 go_wp2_with fail
 refine(mod1 H0.out hs _ _ pos h1 hpos hcl).mono ?_
 rintro e w1 ⟨rfl,hp1⟩
 have k1:=hp1.k1
 have k2:=hp1.k2
 have H1:=Lib.hid hp1
 clear hp1
 go_wp2_with fail
 refine(mod2 H1.out hs _ _ pos h2 hpos hcl).mono ?_
 rintro e w2 ⟨rfl,hp2⟩
 have k1:=hp2.k1
 have k2:=hp2.k2
 have H2:=Lib.hid hp2
 clear hp2
 go_wp2_with fail
 refine(mod3 H2.out hs _ _ pos h3 hpos hcl).mono ?_
 rintro e w3 ⟨rfl,hp3⟩
 have k1:=hp3.k1
 have k2:=hp3.k2
 have H3:=Lib.hid hp3
 clear hp3
 go_wp2_with fail
 refine(mod4 H3.out hs _ _ pos h4 hpos hcl).mono ?_
 rintro e w4 ⟨rfl,hp4⟩
 have k1:=hp4.k1
 have k2:=hp4.k2
 have H4:=Lib.hid hp4
 clear hp4
 go_wp2_with fail
 refine(mod5 H4.out hs _ _ pos h5 hpos hcl).mono ?_
 rintro e w5 ⟨rfl,hp5⟩
 have k1:=hp5.k1
 have k2:=hp5.k2
 have H5:=Lib.hid hp5
 clear hp5
 go_wp2_with fail
 refine(mod6 H5.out hs _ _ pos h6 hpos hcl).mono ?_
 rintro e w6 ⟨rfl,hp6⟩
 have k1:=hp6.k1
 have k2:=hp6.k2
 have H6:=Lib.hid hp6
 clear hp6
 go_wp2_with fail
 refine(mod7 H6.out hs _ _ pos h7 hpos hcl).mono ?_
 rintro e w7 ⟨rfl,hp7⟩
 have k1:=hp7.k1
 have k2:=hp7.k2
 have H7:=Lib.hid hp7
 clear hp7
 go_wp2_with fail
 refine(mod8 H7.out hs _ _ pos h8 hpos hcl).mono ?_
 rintro e w8 ⟨rfl,hp8⟩
 have k1:=hp8.k1
 have k2:=hp8.k2
 have H8:=Lib.hid hp8
 clear hp8
 go_wp2_with fail
 go_end0
 exact⟨rfl,H8.out⟩
theorem corner3_calls {w0 w:World} {b bb cb cap rows cols:Nat} {cw:List Nat} {bits:List Int} (h:PMem w0 w b bb cb cap rows cols cw bits) (hs:Small cw) (pos:Nat)
 (h1:InR rows cols ((rows:Int)-3,0))
 (h2:InR rows cols ((rows:Int)-2,0))
 (h3:InR rows cols ((rows:Int)-1,0))
 (h4:InR rows cols (0,(cols:Int)-2))
 (h5:InR rows cols (0,(cols:Int)-1))
 (h6:InR rows cols (1,(cols:Int)-1))
 (h7:InR rows cols (2,(cols:Int)-1))
 (h8:InR rows cols (3,(cols:Int)-1))
 (hpos:pos<cw.length) (hcl:cw.length≤4000):
 Calls Tryz.prog 103 #[.pointer (some ⟨b,0,none⟩),.int .i64 pos] w (PSet w0 b bb cb cap rows cols cw (set8 rows cols cw pos bits ((rows:Int)-3,0) ((rows:Int)-2,0) ((rows:Int)-1,0) (0,(cols:Int)-2) (0,(cols:Int)-1) (1,(cols:Int)-1) (2,(cols:Int)-1) (3,(cols:Int)-1))):=by
 have k1:=h.k1
 have k2:=h.k2
 have q1:=h.r0
 have q2:=h.r1
 have q3:=h.c0
 have q4:=h.c1
 have H0:=Lib.hid h
 clear h
 go_enter Tryz.func103,Tryz.ntmps103
 go_wp2_with fail
 refine(mod1 H0.out hs _ _ pos h1 hpos hcl).mono ?_
 rintro e w1 ⟨rfl,hp1⟩
 have k1:=hp1.k1
 have k2:=hp1.k2
 have H1:=Lib.hid hp1
 clear hp1
 go_wp2_with fail
 refine(mod2 H1.out hs _ _ pos h2 hpos hcl).mono ?_
 rintro e w2 ⟨rfl,hp2⟩
 have k1:=hp2.k1
 have k2:=hp2.k2
 have H2:=Lib.hid hp2
 clear hp2
 go_wp2_with fail
 refine(mod3 H2.out hs _ _ pos h3 hpos hcl).mono ?_
 rintro e w3 ⟨rfl,hp3⟩
 have k1:=hp3.k1
 have k2:=hp3.k2
 have H3:=Lib.hid hp3
 clear hp3
 go_wp2_with fail
 refine(mod4 H3.out hs _ _ pos h4 hpos hcl).mono ?_
 rintro e w4 ⟨rfl,hp4⟩
 have k1:=hp4.k1
 have k2:=hp4.k2
 have H4:=Lib.hid hp4
 clear hp4
 go_wp2_with fail
 refine(mod5 H4.out hs _ _ pos h5 hpos hcl).mono ?_
 rintro e w5 ⟨rfl,hp5⟩
 have k1:=hp5.k1
 have k2:=hp5.k2
 have H5:=Lib.hid hp5
 clear hp5
 go_wp2_with fail
 refine(mod6 H5.out hs _ _ pos h6 hpos hcl).mono ?_
 rintro e w6 ⟨rfl,hp6⟩
 have k1:=hp6.k1
 have k2:=hp6.k2
 have H6:=Lib.hid hp6
 clear hp6
 go_wp2_with fail
 refine(mod7 H6.out hs _ _ pos h7 hpos hcl).mono ?_
 rintro e w7 ⟨rfl,hp7⟩
 have k1:=hp7.k1
 have k2:=hp7.k2
 have H7:=Lib.hid hp7
 clear hp7
 go_wp2_with fail
 refine(mod8 H7.out hs _ _ pos h8 hpos hcl).mono ?_
 rintro e w8 ⟨rfl,hp8⟩
 have k1:=hp8.k1
 have k2:=hp8.k2
 have H8:=Lib.hid hp8
 clear hp8
 go_wp2_with fail
 go_end0
 exact⟨rfl,H8.out⟩
set_option maxRecDepth 100000 in
theorem corner4_calls {w0 w:World} {b bb cb cap rows cols:Nat} {cw:List Nat} {bits:List Int} (h:PMem w0 w b bb cb cap rows cols cw bits) (hs:Small cw) (pos:Nat)
 (h1:InR rows cols ((rows:Int)-1,0))
 (h2:InR rows cols ((rows:Int)-1,(cols:Int)-1))
 (h3:InR rows cols (0,(cols:Int)-3))
 (h4:InR rows cols (0,(cols:Int)-2))
 (h5:InR rows cols (0,(cols:Int)-1))
 (h6:InR rows cols (1,(cols:Int)-3))
 (h7:InR rows cols (1,(cols:Int)-2))
 (h8:InR rows cols (1,(cols:Int)-1))
 (hpos:pos<cw.length) (hcl:cw.length≤4000):
 Calls Tryz.prog 104 #[.pointer (some ⟨b,0,none⟩),.int .i64 pos] w (PSet w0 b bb cb cap rows cols cw (set8 rows cols cw pos bits ((rows:Int)-1,0) ((rows:Int)-1,(cols:Int)-1) (0,(cols:Int)-3) (0,(cols:Int)-2) (0,(cols:Int)-1) (1,(cols:Int)-3) (1,(cols:Int)-2) (1,(cols:Int)-1))):=by
 have k1:=h.k1
 have k2:=h.k2
 have q1:=h.r0
 have q2:=h.r1
 have q3:=h.c0
 have q4:=h.c1
 have H0:=Lib.hid h
 clear h
 go_enter Tryz.func104,Tryz.ntmps104
 go_wp2_with fail
 refine(mod1 H0.out hs _ _ pos h1 hpos hcl).mono ?_
 rintro e w1 ⟨rfl,hp1⟩
 have k1:=hp1.k1
 have k2:=hp1.k2
 have H1:=Lib.hid hp1
 clear hp1
 go_wp2_with fail
 have iw1:IntKind.i64.wrap ((rows:Int)-1)=(rows:Int)-1:=IntWalk.i64_in _ (by omega)
 have iw2:IntKind.i64.wrap ((cols:Int)-1)=(cols:Int)-1:=IntWalk.i64_in _ (by omega)
 go_region_with ((go_at_call 132;refine(mod2 H1.out.drew hs _ _ pos h2 hpos hcl).mono ?_;rintro e w2 ⟨rfl,hp2⟩;have k1:=hp2.k1;have k2:=hp2.k2;have H2:=Lib.hid hp2;clear hp2))
 all_goals
  clear iw1 iw2
  go_wp2_with fail
  refine(mod3 H2.out hs _ _ pos h3 hpos hcl).mono ?_
  rintro e w3 ⟨rfl,hp3⟩
  have k1:=hp3.k1
  have k2:=hp3.k2
  have H3:=Lib.hid hp3
  clear hp3
  go_wp2_with fail
  refine(mod4 H3.out hs _ _ pos h4 hpos hcl).mono ?_
  rintro e w4 ⟨rfl,hp4⟩
  have k1:=hp4.k1
  have k2:=hp4.k2
  have H4:=Lib.hid hp4
  clear hp4
  go_wp2_with fail
  refine(mod5 H4.out hs _ _ pos h5 hpos hcl).mono ?_
  rintro e w5 ⟨rfl,hp5⟩
  have k1:=hp5.k1
  have k2:=hp5.k2
  have H5:=Lib.hid hp5
  clear hp5
  go_wp2_with fail
  refine(mod6 H5.out hs _ _ pos h6 hpos hcl).mono ?_
  rintro e w6 ⟨rfl,hp6⟩
  have k1:=hp6.k1
  have k2:=hp6.k2
  have H6:=Lib.hid hp6
  clear hp6
  go_wp2_with fail
  refine(mod7 H6.out hs _ _ pos h7 hpos hcl).mono ?_
  rintro e w7 ⟨rfl,hp7⟩
  have k1:=hp7.k1
  have k2:=hp7.k2
  have H7:=Lib.hid hp7
  clear hp7
  go_wp2_with fail
  refine(mod8 H7.out hs _ _ pos h8 hpos hcl).mono ?_
  rintro e w8 ⟨rfl,hp8⟩
  have k1:=hp8.k1
  have k2:=hp8.k2
  have H8:=Lib.hid hp8
  clear hp8
  go_wp2_with fail
  go_end0
  exact⟨rfl,H8.out⟩
end
end Go.Proofs.YtcnallabiffemaaGreatDoor
