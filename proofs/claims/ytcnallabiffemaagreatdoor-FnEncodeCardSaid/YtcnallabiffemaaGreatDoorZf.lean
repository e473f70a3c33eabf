/- What the writer paints: the regions' borders around the placement. -/
import Derived.Test.YtcnallabiffemaaGreatDoorZe
set_option linter.unusedVariables false
set_option linter.unusedSimpArgs false
namespace Go.Proofs.YtcnallabiffemaaGreatDoor
section
open Go.RowKit
def rowsArr (B W H i:Nat):Array Value:=((List.range H).map fun j=>if j<i then Value.slice (some ⟨B+1+j,0,none⟩) W W else .slice none 0 0).toArray
theorem rowsArr_get (B W H i j:Nat) (h:j<H):(rowsArr B W H i)[j]? =some (if j<i then Value.slice (some ⟨B+1+j,0,none⟩) W W else .slice none 0 0):=by
 simp[rowsArr,h]
theorem rowsArr_set (B W H i:Nat) (h:i<H):(rowsArr B W H i).setIfInBounds i (.slice (some ⟨B+1+i,0,none⟩) W W)=rowsArr B W H (i+1):=by
 apply Array.ext
 ·simp[rowsArr]
 ·intro j h1 h2
  have hj:j<H:=by simpa[rowsArr]using h2
  simp only[rowsArr,List.setIfInBounds_toArray,List.getElem_toArray,List.getElem_set,List.getElem_map,List.getElem_range]
  by_cases e:i=j
  ·subst e;simp
  ·by_cases e2:j<i
   ·rw[if_neg e,if_pos e2,if_pos (by omega)]
   ·rw[if_neg e,if_neg e2,if_neg (by omega)]
theorem make175 (c:Int) (h1:0≤c) (h2:c≤1000000) (B W:Nat) (w:World):
 (Instr.makeSlice 175 (.int .i64 c) (.int .i64 c)).run Tryz.prog w= .ok (.slice (some ⟨w.heap.size,0,none⟩) c.toNat c.toNat) (w.alloc (.cells (rowsArr B W c.toNat 0) 136)):=by
 obtain⟨i,h,hz,hs,hb⟩:=info_parts Tryz.inf136
 have hb8:(i.bytes:Int)≤24:=by omega
 have:(i.bytes:Int)*c≤24*1000000:=Int.mul_le_mul hb8 h2 (by omega) (by omega)
 rw[run_make w 175 136 i _ Tryz.underlying175 h hz .i64 .i64 c c h1 (Int.le_refl _) (by omega) (by omega),hs,Nat.mul_one]
 have:madeCells (Value.slice none 0 0).cells c.toNat=rowsArr B W c.toNat 0:=by
  apply Array.toList_inj.1
  rw[show (Value.slice none 0 0).cells= #[Value.slice none 0 0]from rfl,toList_madeCells_one]
  simp[rowsArr,List.map_const']
 rw[this]
structure BMat (w:World) (B W H:Nat) (M:Nat→List Int):Prop where
 hdr:w.heap[B+1+H]? =some (.cells #[.slice (some ⟨B,0,none⟩) H H,.int .i64 W,.int .i64 H] 177)
 ptr:w.heap[B]? =some (.cells (rowsArr B W H H) 136)
 row:∀y,y<H→Row w (B+1+y) .i8 139 (M y)
 len:∀y,y<H→(M y).length=W
theorem BMat.below {w w':World} {B W H:Nat} {M:Nat→List Int} (h:BMat w B W H M) {B':Nat} (hb:Below B' w w') (hB:B+1+H<B'):BMat w' B W H M:=
 ⟨(hb.block _ hB).trans h.hdr,(hb.block _ (by omega)).trans h.ptr,fun y hy=>(h.row y hy).below hb (by omega),h.len⟩
theorem BMat.drewN {w:World} {B W H:Nat} {M:Nat→List Int} (h:BMat w B W H M) (n:Nat):BMat (w.drewN n) B W H M:=⟨h.hdr,h.ptr,h.row,h.len⟩
def NewPost (W H:Nat) (w:World) (e:Ending) (w':World):Prop:=
 e= .returned (.pointer (some ⟨w.heap.size+1+H,0,none⟩))∧BMat w' w.heap.size W H (fun _=>zs W)∧Below w.heap.size w w'∧w.heap.size+H+2≤w'.heap.size
theorem new_step {w wr:World} {W H k:Nat} (hlt:k<H) (hz:wr.heap.size=w.heap.size+1+k) (h1:wr.heap[w.heap.size]? =some (.cells (rowsArr w.heap.size W H k) 136))
 (h2:∀y,y<k→Row wr (w.heap.size+1+y) .i8 139 (zs W)) (h3:Below w.heap.size w wr) (wx:World)
 (hx:wx=(wr.setCell ⟨w.heap.size,k,none⟩ (.slice (some ⟨wr.heap.size,0,none⟩) W W)).alloc (.cells (irow .i8 (zs W)) 139)):
 wx.heap.size=w.heap.size+1+(k+1)∧wx.heap[w.heap.size]? =some (.cells (rowsArr w.heap.size W H (k+1)) 136)∧(∀y,y<k+1→Row wx (w.heap.size+1+y) .i8 139 (zs W))∧Below w.heap.size w wx:=by
 subst hx
 have hs:(wr.setCell ⟨w.heap.size,k,none⟩ (.slice (some ⟨wr.heap.size,0,none⟩) W W)).heap.size=wr.heap.size:=by simp[World.setCell]
 refine⟨by rw[alloc_heap,Array.size_push,hs];omega,?_,fun y hy=>?_,?_⟩
 ·rw[Below.heap_alloc _ _ _ (by omega),heap_setCell_at h1,hz,rowsArr_set _ _ _ _ hlt]
 ·rcases Nat.lt_succ_iff_lt_or_eq.1 hy with h|rfl
  ·exact((h2 y h).set_ne (by simp;omega) _).alloc _
  ·have:=Row.new (wr.setCell ⟨w.heap.size,y,none⟩ (.slice (some ⟨wr.heap.size,0,none⟩) W W)) .i8 139 (zs W)
   rw[hs,hz]at this
   rw[hz];exact this
 ·exact(h3.setCell (by simp) _).alloc (by omega) _
set_option maxRecDepth 100000 in
set_option maxHeartbeats 4000000 in
theorem newBM_calls (W H:Nat) (hW:W≤1000) (hH:H≤1000) (w:World):
 Calls Tryz.prog 115 #[.int .i64 W,.int .i64 H] w (NewPost W H w):=by
 have hm:=make175 (H:Int) (by omega) (by omega) w.heap.size W
 have hm2:=make136 (W:Int) (by omega) (by omega)
 rw[Int.toNat_natCast]at hm hm2
 go_enter Tryz.func115,Tryz.ntmps115
 go_wp2
 go_loopw [6] (fun i wr=>∃k:Nat,k≤H∧i= .int .i64 k∧wr.heap.size=w.heap.size+1+k∧Hid (wr.heap[w.heap.size]? =some (.cells (rowsArr w.heap.size W H k) 136))∧Hid (∀y,y<k→Row wr (w.heap.size+1+y) .i8 139 (zs W))∧Hid (Below w.heap.size w wr)) (fun i _=>H-(intOf i).toNat)
 case atStart=>
  refine⟨0,by omega,rfl,by simp,?_,fun y hy=>by omega,(Below.refl _ _).alloc (Nat.le_refl _) _⟩
  rw[alloc_heap];simp[Hid]
 case round=>
  obtain⟨k,hk,rfl,hz,h1,h2,h3⟩:=hrel
  have HZ:=Lib.hid hz
  clear hz
  by_cases hlt:k<H
  ·have c1:=(cell_blk h1.out k).trans (rowsArr_get _ _ _ _ _ hlt)
   have f1:=frozen_blk h1.out k
   rw[if_neg (Nat.lt_irrefl k)]at c1
   have hsz:w.heap.size<wr.heap.size:=by have:=HZ.out;omega
   go_wp2
   obtain⟨a1,a2,a3,a4⟩:=new_step hlt HZ.out h1.out h2.out h3.out _ rfl
   exact⟨⟨k+1,by omega,by go_num,a1,a2,a3,a4⟩,by simp[intOf];omega⟩
  ·obtain rfl:k=H:=by omega
   go_wp2
   go_ret
   have hz:=HZ.out
   refine⟨by rw[hz];rfl,⟨?_,?_,fun y hy=>(h2.out y hy).alloc _,fun _ _=>by simp⟩,h3.out.alloc (by omega) _,by rw[alloc_heap,Array.size_push];omega⟩
   ·rw[alloc_heap,←hz];simp
   ·rw[Below.heap_alloc _ _ _ (by omega)];exact h1.out
end
section
open Go.RowKit
def putM (M:Nat→List Int) (y x:Nat) (v:Int):Nat→List Int:=fun y'=>if y'=y then(M y).set x v else M y'
section
variable {w:World} {B W H:Nat} {M:Nat→List Int}
theorem BMat.h0 (h:BMat w B W H M):w.cell? ⟨B+1+H,0,none⟩=some (.slice (some ⟨B,0,none⟩) H H):=by rw[cell_blk h.hdr];rfl
theorem BMat.h1 (h:BMat w B W H M):w.cell? ⟨B+1+H,1,none⟩=some (.int .i64 W):=by rw[cell_blk h.hdr];rfl
theorem BMat.h2 (h:BMat w B W H M):w.cell? ⟨B+1+H,2,none⟩=some (.int .i64 H):=by rw[cell_blk h.hdr];rfl
theorem BMat.hp (h:BMat w B W H M) {y:Nat} (hy:y<H):w.cell? ⟨B,y,none⟩=some (.slice (some ⟨B+1+y,0,none⟩) W W):=by
 rw[cell_blk h.ptr,rowsArr_get _ _ _ _ _ hy,if_pos hy]
theorem BMat.set (h:BMat w B W H M) {y x:Nat} (hy:y<H) (v:Int):BMat (w.setCell ⟨B+1+y,x,none⟩ (.int .i8 v)) B W H (putM M y x v) where
 hdr:=by rw[Below.heap_setCell _ _ _ _ (by simp;omega)];exact h.hdr
 ptr:=by rw[Below.heap_setCell _ _ _ _ (by simp;omega)];exact h.ptr
 row:=fun y' hy'=>by
  unfold putM
  by_cases e:y'=y
  ·subst e;rw[if_pos rfl];exact(h.row y' hy').set x v
  ·rw[if_neg e];exact(h.row y' hy').set_ne (by simp;omega) _
 len:=fun y' hy'=>by
  unfold putM
  by_cases e:y'=y
  ·subst e;rw[if_pos rfl,List.length_set];exact h.len _ hy'
  ·rw[if_neg e];exact h.len _ hy'
end
def SetPost (B W H:Nat) (M:Nat→List Int) (w:World) (e:Ending) (w':World):Prop:=e= .returned (.tuple #[])∧BMat w' B W H M∧Below B w w'
theorem setBool_calls {w:World} {B W H:Nat} {M:Nat→List Int} (h:BMat w B W H M) (x y:Nat) (v:Bool) (hx:x<W) (hy:y<H) (hW:W≤1000) (hH:H≤1000):
 Calls Tryz.prog 117 #[.pointer (some ⟨B+1+H,0,none⟩),.int .i64 x,.int .i64 y,.bool v] w (SetPost B W H (putM M y x (b2i v)) w):=by
 have c0:=h.h0
 have c1:=h.hp hy
 have c2:=(h.row y hy).cell (i:=x) (by rw[h.len y hy];exact hx)
 have f2:=(h.row y hy).free x
 have S:=Lib.hid (h.set (x:=x) hy (b2i v))
 have T:=Lib.hid (Below.setCell (Below.refl B w) (p:=⟨B+1+y,x,none⟩) (by simp;omega) (.int .i8 (b2i v)))
 clear h
 cases v
 all_goals
  go_enter Tryz.func117,Tryz.ntmps117
  go_wp2
  go_end0
  exact⟨rfl,S.out,T.out⟩
theorem getBM_calls {w:World} {B W H:Nat} {M:Nat→List Int} (h:BMat w B W H M) (x y:Nat) (hx:x<W) (hy:y<H) (hW:W≤1000) (hH:H≤1000):
 Calls Tryz.prog 141 #[.pointer (some ⟨B+1+H,0,none⟩),.int .i64 x,.int .i64 y] w fun e w'=>e= .returned (.int .i8 ((M y).getD x 0))∧w=w':=by
 have c0:=h.h0
 have c1:=h.hp hy
 have c2:=(h.row y hy).cell (i:=x) (by rw[h.len y hy];exact hx)
 clear h
 generalize (M y).getD x 0=z at*
 go_enter Tryz.func141,Tryz.ntmps141
 go_wp2
 go_ret
 exact⟨rfl,rfl⟩
def rsOf (W:Nat):Nat:=(W+31)/32
structure BitM (w:World) (b W H:Nat) (bits:List Nat):Prop where
 blk:w.heap[b]? =some (.cells #[.int .i64 W,.int .i64 H,.int .i64 (rsOf W),.slice (some ⟨b-1,0,none⟩) bits.length bits.length] 101)
 row:Row w (b-1) .u32 102 (nl bits)
 pos:0<b
 len:bits.length=rsOf W*H
theorem new_last {w:World} {n:Nat} (h:w.heap.size=n) (o:Obj):(w.alloc o).heap[n]? =some o:=by
 subst h;rw[alloc_heap];exact Array.getElem?_push_size
def NewBitPost (W H:Nat) (w:World) (e:Ending) (w':World):Prop:=
 e= .returned (.tuple #[.pointer (some ⟨w.heap.size+1,0,none⟩),.nilIface])∧BitM w' (w.heap.size+1) W H (List.replicate (rsOf W*H) 0)∧Below w.heap.size w w'∧w.heap.size+2≤w'.heap.size
theorem newBit_calls (W H:Nat) (hW0:1≤W) (hH0:1≤H) (hW:W≤1000) (hH:H≤1000) (w:World):
 Calls Tryz.prog 139 #[.int .i64 W,.int .i64 H] w (NewBitPost W H w):=by
 have hrs:((W:Int)+31)/32=(rsOf W:Int):=by unfold rsOf;omega
 have hrb:rsOf W≤33:=by unfold rsOf;omega
 have hm0:rsOf W*H≤33*1000:=Nat.mul_le_mul hrb hH
 have hm1:((rsOf W*H:Nat):Int)=(rsOf W:Int)*(H:Int):=by simp
 have hm:=make99 ((rsOf W:Int)*(H:Int)) (by omega) (by omega)
 rw[show ((rsOf W:Int)*(H:Int)).toNat=rsOf W*H by omega]at hm
 have hb1:(0:Int)≤(rsOf W:Int)*(H:Int):=by omega
 have hb2:(rsOf W:Int)*(H:Int)≤33000:=by omega
 clear hm0 hm1
 go_enter Tryz.func139,Tryz.ntmps139
 go_wp2
 go_ret2
 refine⟨rfl,⟨?_,?_,by omega,by simp⟩,((Below.refl _ _).alloc (Nat.le_refl _) _).alloc (by simp) _,by simp⟩
 ·rw[List.length_replicate]
  exact new_last (by simp) _
 ·rw[←zs_nl];exact(Row.new _ _ _ _).alloc _
end
section
open Go.RowKit
section
variable {w:World} {b W H:Nat} {bits:List Nat}
theorem BitM.k0 (h:BitM w b W H bits):w.cell? ⟨b,0,none⟩=some (.int .i64 W):=by rw[cell_blk h.blk];rfl
theorem BitM.k1 (h:BitM w b W H bits):w.cell? ⟨b,1,none⟩=some (.int .i64 H):=by rw[cell_blk h.blk];rfl
theorem BitM.k2 (h:BitM w b W H bits):w.cell? ⟨b,2,none⟩=some (.int .i64 (rsOf W)):=by rw[cell_blk h.blk];rfl
theorem BitM.k3 (h:BitM w b W H bits):w.cell? ⟨b,3,none⟩=some (.slice (some ⟨b-1,0,none⟩) bits.length bits.length):=by rw[cell_blk h.blk];rfl
theorem BitM.set (h:BitM w b W H bits) (i v:Nat):BitM (w.setCell ⟨b-1,i,none⟩ (.int .u32 (v:Int))) b W H (bits.set i v) where
 blk:=by rw[Below.heap_setCell _ _ _ _ (by have:=h.pos;simp;omega),List.length_set];exact h.blk
 row:=by have:=h.row.set i (v:Int);rwa [set_nl]at this
 pos:=h.pos
 len:=by rw[List.length_set];exact h.len
theorem BitM.drewN (h:BitM w b W H bits) (n:Nat):BitM (w.drewN n) b W H bits:=⟨h.blk,h.row,h.pos,h.len⟩
theorem BitM.below {w':World} {B:Nat} (h:BitM w b W H bits) (hb:Below B w w') (hB:b<B):BitM w' b W H bits:=
 ⟨(hb.block _ hB).trans h.blk,h.row.below hb (by omega),h.pos,h.len⟩
end
def BitPost (b W H:Nat) (bits:List Nat) (v:Value) (w:World) (e:Ending) (w':World):Prop:=e= .returned v∧BitM w' b W H bits∧Below (b-1) w w'
theorem set_zero (n i:Nat):(List.replicate n 0).set i 0=List.replicate n 0:=by
 apply List.ext_getElem
 ·simp
 ·intro j h1 h2
  rw[List.getElem_set];split<;>simp
theorem clear_calls {w:World} {b W H n:Nat} (h:BitM w b W H (List.replicate n 0)) (hn:n≤100000):
 Calls Tryz.prog 140 #[.pointer (some ⟨b,0,none⟩)] w (BitPost b W H (List.replicate n 0) (.tuple #[]) w):=by
 have k3:=h.k3
 rw[List.length_replicate]at k3
 have hh:=Lib.hid h
 clear h
 go_enter Tryz.func140,Tryz.ntmps140
 go_wp2
 go_loopw [3] (fun i wr=>∃k:Nat,k≤n∧i= .int .i64 k∧Hid (BitM wr b W H (List.replicate n 0))∧Hid (Below (b-1) w wr)) (fun i _=>n-(intOf i).toNat)
 case atStart=>exact⟨0,by omega,rfl,hh,Below.refl _ _⟩
 case round=>
  obtain⟨k,hk,rfl,h1,h2⟩:=hrel
  by_cases hlt:k<n
  ·have k3:=h1.out.k3
   rw[List.length_replicate]at k3
   have c1:=h1.out.row.cell (i:=k) (by simpa using hlt)
   have f1:=h1.out.row.free k
   have s1:=h1.out.set k 0
   rw[set_zero]at s1
   have S1:=Lib.hid s1
   have S2:=Lib.hid (h2.out.setCell (p:=⟨b-1,k,none⟩) (Nat.le_refl _) (.int .u32 ((0:Nat):Int)))
   clear s1
   go_wp2
   exact⟨⟨k+1,by omega,by go_num,S1,S2⟩,by simp[intOf];omega⟩
  ·obtain rfl:k=n:=by omega
   go_wp2
   go_end0
   exact⟨rfl,h1.out,h2.out⟩
def orBit (bits:List Nat) (i s:Nat):List Nat:=bits.set i (bits.getD i 0 ||| 2^s)
def Small32 (xs:List Nat):Prop:=∀i,xs.getD i 0<4294967296
theorem or32 {z s:Nat} (hz:z<4294967296) (hs:s<32):Go.bits .or .u32 (z:Int) ((2:Int)^s%4294967296)=((z ||| 2^s:Nat):Int):=by
 have h2:2^s<4294967296:=Nat.lt_of_lt_of_le (Nat.pow_lt_pow_right (by omega) hs) (by decide)
 have h3:(2:Int)^s=((2^s:Nat):Int):=by rw[Int.natCast_pow];rfl
 have h5:((2^s:Nat):Int)%4294967296=((2^s:Nat):Int):=by
  generalize 2^s=q at*
  omega
 rw[h3,h5]
 exact u32_or_nat z (2^s) hz h2
set_option maxHeartbeats 1000000 in
theorem setReg_calls {w:World} {b W H:Nat} {bits:List Nat} (h:BitM w b W H bits) (hs:Small32 bits) (x y:Nat) (hx:x<W) (hy:y<H) (hW:W≤1000) (hH:H≤1000):
 Calls Tryz.prog 142 #[.pointer (some ⟨b,0,none⟩),.int .i64 x,.int .i64 y,.int .i64 1,.int .i64 1] w (BitPost b W H (orBit bits (y*rsOf W+x/32) (x%32)) .nilIface w):=by
 have k0:=h.k0
 have k1:=h.k1
 have hrb:rsOf W≤33:=by unfold rsOf;omega
 have hh:=Lib.hid h
 clear h
 have hy0:decide ((y:Int)<0)=false:=by simp
 have hx0:decide ((x:Int)<0)=false:=by simp
 go_enter Tryz.func142,Tryz.ntmps142
 go_wp2
 go_loopw [13] (fun i wr=>∃k:Nat,k≤1∧i= .int .i64 ((y:Int)+k)∧Hid (BitM wr b W H (if k=0 then bits else orBit bits (y*rsOf W+x/32) (x%32)))∧Hid (Below (b-1) w wr)) (fun i _=>(y+1)-(intOf i).toNat)
 case atStart=>exact⟨0,by omega,by simp,hh,Below.refl _ _⟩
 case round=>
  obtain⟨k,hk,rfl,h1,h2⟩:=hrel
  rcases(by omega:k=0∨k=1)with rfl|rfl
  ·rw[if_pos rfl]at h1
   rw[show (y:Int)+((0:Nat):Int)=(y:Int) by omega]
   have k2:=h1.out.k2
   obtain⟨p,hp⟩:∃p:Nat,p=y*rsOf W:=⟨_,rfl⟩
   have hpi:(y:Int)*(rsOf W:Int)=(p:Int):=by rw[hp];simp
   have hpb:p+rsOf W≤rsOf W*H:=by
    rw[hp]
    have:=Nat.mul_le_mul_right (rsOf W) hy
    rw[Nat.succ_mul]at this
    rw[Nat.mul_comm (rsOf W) H];exact this
   have hpc:rsOf W*H≤33*1000:=Nat.mul_le_mul hrb hH
   have hx32:x/32<rsOf W:=by unfold rsOf;omega
   have HPE:=Lib.hid hp
   clear hp
   go_wp2
   go_loopw [15] (fun i wr=>∃k:Nat,k≤1∧i= .int .i64 ((x:Int)+k)∧Hid (BitM wr b W H (if k=0 then bits else orBit bits (p+x/32) (x%32)))∧Hid (Below (b-1) w wr)) (fun i _=>(x+1)-(intOf i).toNat)
   case atStart=>exact⟨0,by omega,by simp,h1,h2⟩
   case round=>
    clear h1 h2
    obtain⟨k,hk,rfl,h1,h2⟩:=hrel
    rcases(by omega:k=0∨k=1)with rfl|rfl
    ·rw[if_pos rfl]at h1
     rw[show (x:Int)+((0:Nat):Int)=(x:Int) by omega]
     have k3:=h1.out.k3
     have hl:=h1.out.len
     have cx:=h1.out.row.cell (i:=p+x/32) (by rw[length_nl];omega)
     rw[getD_nl]at cx
     have fx:=h1.out.row.free (p+x/32)
     have sm:=hs (p+x/32)
     have S1:=Lib.hid (h1.out.set (p+x/32) (bits.getD (p+x/32) 0 ||| 2^(x%32)))
     obtain⟨z,hz⟩:∃z,z=bits.getD (p+x/32) 0:=⟨_,rfl⟩
     rw[←hz]at cx sm S1
     have HZ:=Lib.hid hz
     clear hz
     have hlen:bits.length≤33000:=by omega
     have hlt2:(p:Int)+(x:Int)/32<(bits.length:Int):=by omega
     clear hl
     have i1:((p:Int)+(x:Int)/32).toNat=p+x/32:=by omega
     have S2:=Lib.hid (h2.out.setCell (p:=⟨b-1,p+x/32,none⟩) (Nat.le_refl _) (.int .u32 ((z ||| 2^(x%32):Nat):Int)))
     have HOR:=Lib.hid (or32 sm (show x%32<32 by omega))
     have HZB:=Lib.hid (show bits.set (p+x/32) (z ||| 2^(x%32))=orBit bits (p+x/32) (x%32) by rw[orBit,HZ.out])
     go_wp2
     rw[HOR.out]
     exact⟨⟨1,by omega,by simp,by rw[if_neg (by omega),←HZB.out];exact S1,S2⟩,by simp[intOf]⟩
    ·rw[if_neg (by omega)]at h1
     go_wp2
     exact⟨⟨1,by omega,by simp,by rw[if_neg (by omega),←HPE.out];exact h1.out,h2.out⟩,by simp[intOf]⟩
  ·rw[if_neg (by omega)]at h1
   go_wp2
   go_ret
   exact⟨rfl,h1.out,h2.out⟩
theorem and32 {z s:Nat} (hz:z<4294967296):(Go.bits .and .u32 ((z:Int)/(2:Int)^s) 1 !=0)=z.testBit s:=by
 have h3:(z:Int)/(2:Int)^s=((z/2^s:Nat):Int):=by rw[Int.natCast_ediv,Int.natCast_pow];rfl
 have h4:z/2^s<4294967296:=Nat.lt_of_le_of_lt (Nat.div_le_self _ _) hz
 rw[h3,show (1:Int)=((1:Nat):Int)from rfl,u32_and_nat _ _ h4 (by omega),Nat.testBit,Nat.shiftRight_eq_div_pow,Nat.and_comm]
 by_cases e:1 &&& z/2^s=0
 ·rw[e];rfl
 ·rw[show (1 &&& z/2^s !=0)=true by simpa using e]
  rw[bne_iff_ne];intro h;exact e (Int.ofNat_eq_zero.1 h)
def pixel (W:Nat) (bits:List Nat) (x y:Nat):Bool:=(bits.getD (y*rsOf W+x/32) 0).testBit (x%32)
theorem getBits_calls {w:World} {b W H:Nat} {bits:List Nat} (h:BitM w b W H bits) (hs:Small32 bits) (x y:Nat) (hx:x<W) (hy:y<H) (hW:W≤1000) (hH:H≤1000):
 Calls Tryz.prog 33 #[.pointer (some ⟨b,0,none⟩),.int .i64 x,.int .i64 y] w fun e w'=>e= .returned (.bool (pixel W bits x y))∧w=w':=by
 have k0:=h.k0
 have k1:=h.k1
 have k2:=h.k2
 have k3:=h.k3
 have hrb:rsOf W≤33:=by unfold rsOf;omega
 have hl:=h.len
 have hpc:rsOf W*H≤33*1000:=Nat.mul_le_mul hrb hH
 have hx32:x/32<rsOf W:=by unfold rsOf;omega
 have hpb:y*rsOf W+rsOf W≤rsOf W*H:=by
  have:=Nat.mul_le_mul_right (rsOf W) hy
  rw[Nat.succ_mul]at this
  rw[Nat.mul_comm (rsOf W) H];exact this
 have cx:=h.row.cell (i:=y*rsOf W+x/32) (by rw[length_nl];omega)
 rw[getD_nl]at cx
 have sm:=hs (y*rsOf W+x/32)
 obtain⟨p,hp⟩:∃p:Nat,p=y*rsOf W:=⟨_,rfl⟩
 have hpi:(y:Int)*(rsOf W:Int)=(p:Int):=by rw[hp];simp
 unfold pixel
 rw[←hp]at cx sm hpb ⊢
 have hlt2:(p:Int)+(x:Int)/32<(bits.length:Int):=by omega
 have hlen:bits.length≤33000:=by omega
 clear h hl hp
 generalize bits.getD (p+x/32) 0=z at*
 have i1:((p:Int)+(x:Int)/32).toNat=p+x/32:=by omega
 go_enter Tryz.func33,Tryz.ntmps33
 go_wp2
 go_ret
 refine⟨?_,rfl⟩
 show Ending.returned (.bool (Go.bits .and .u32 ((z:Int)/(2:Int)^(x%32)) 1 !=0))=_
 rw[and32 sm]
end
section
open Go.RowKit
structure Filled (W H:Nat) (M:Nat→List Int) (bits:List Nat) (y x:Nat):Prop where
 small:Small32 bits
 len:bits.length=rsOf W*H
 pix:∀X Y,X<W→Y<H→pixel W bits X Y=(decide (Y<y∨(Y=y∧X<x))&&((M Y).getD X 0==1))
theorem Small32.or {bits:List Nat} (h:Small32 bits) (i s:Nat) (hs:s<32):Small32 (orBit bits i s):=by
 intro j
 have h2:2^s<2^32:=Nat.pow_lt_pow_right (by omega) hs
 have h3:bits.getD i 0 ||| 2^s<2^32:=Nat.or_lt_two_pow (h i) h2
 simp only[orBit,List.getD_eq_getElem?_getD,List.getElem?_set]
 split
 ·split
  ·simpa[List.getD_eq_getElem?_getD]using h3
  ·simp
 ·have:=h j;simpa[List.getD_eq_getElem?_getD]using this
theorem getD_setN {bits:List Nat} {i n v:Nat} (hn:n<bits.length):(bits.set i v).getD n 0=if i=n then v else bits.getD n 0:=by
 simp only[List.getD_eq_getElem?_getD,List.getElem?_set]
 by_cases e:i=n
 ·subst e;simp[hn]
 ·simp[e]
theorem idx_lt {W H x y:Nat} (hx:x<W) (hy:y<H):y*rsOf W+x/32<rsOf W*H:=by
 have hx32:x/32<rsOf W:=by unfold rsOf;omega
 have:=Nat.mul_le_mul_right (rsOf W) hy
 rw[Nat.succ_mul]at this
 rw[Nat.mul_comm (rsOf W) H];omega
theorem pixel_or {W H:Nat} {bits:List Nat} {x y X Y:Nat} (hl:bits.length=rsOf W*H) (hX:X<W) (hY:Y<H) (hx:x<W):
 pixel W (orBit bits (y*rsOf W+x/32) (x%32)) X Y=(pixel W bits X Y||decide (X=x∧Y=y)):=by
 unfold pixel orBit
 have hx32:x/32<rsOf W:=by unfold rsOf;omega
 have hX32:X/32<rsOf W:=by unfold rsOf;omega
 rw[getD_setN (by rw[hl];exact idx_lt hX hY)]
 by_cases e:y*rsOf W+x/32=Y*rsOf W+X/32
 ·rw[if_pos e]
  have e1:y=Y:=by
   rcases Nat.lt_trichotomy y Y with h|h|h
   ·have:=Nat.mul_le_mul_right (rsOf W) (Nat.succ_le_of_lt h);rw[Nat.succ_mul]at this;omega
   ·exact h
   ·have:=Nat.mul_le_mul_right (rsOf W) (Nat.succ_le_of_lt h);rw[Nat.succ_mul]at this;omega
  subst e1
  have e2:x/32=X/32:=by omega
  rw[←e2,Nat.testBit_or,Nat.testBit_two_pow]
  congr 1
  simp only[decide_eq_decide]
  constructor
  ·intro h;exact⟨by omega,trivial⟩
  ·intro h;omega
 ·rw[if_neg e]
  have:¬(X=x∧Y=y):=fun h=>e (by rw[h.1,h.2])
  simp[this]
theorem Filled.start (W H:Nat) (M:Nat→List Int):Filled W H M (List.replicate (rsOf W*H) 0) 0 0:=by
 refine⟨fun i=>?_,by simp,fun X Y hX hY=>?_⟩
 ·simp only[List.getD_eq_getElem?_getD,List.getElem?_replicate];split<;>simp
 ·unfold pixel
  have:(List.replicate (rsOf W*H) 0).getD (Y*rsOf W+X/32) 0=0:=by
   simp only[List.getD_eq_getElem?_getD,List.getElem?_replicate];split<;>simp
  rw[this];simp
theorem Filled.yes {W H:Nat} {M:Nat→List Int} {bits:List Nat} {y x:Nat} (h:Filled W H M bits y x) (hx:x<W) (hm:(M y).getD x 0=1):
 Filled W H M (orBit bits (y*rsOf W+x/32) (x%32)) y (x+1):=by
 refine⟨h.small.or _ _ (by omega),by simp[orBit,h.len],fun X Y hX hY=>?_⟩
 rw[pixel_or h.len hX hY hx,h.pix X Y hX hY]
 by_cases e:X=x∧Y=y
 ·obtain⟨rfl,rfl⟩:=e
  rw[hm];simp
 ·have e2:(Y<y∨Y=y∧X<x)↔(Y<y∨Y=y∧X<x+1):=by omega
  simp only[e,decide_false,Bool.or_false]
  simp only[e2]
theorem Filled.no {W H:Nat} {M:Nat→List Int} {bits:List Nat} {y x:Nat} (h:Filled W H M bits y x) (hm:((M y).getD x 0==1)=false):Filled W H M bits y (x+1):=by
 refine⟨h.small,h.len,fun X Y hX hY=>?_⟩
 rw[h.pix X Y hX hY]
 by_cases e:X=x∧Y=y
 ·obtain⟨rfl,rfl⟩:=e
  rw[hm];simp
 ·have e2:(Y<y∨Y=y∧X<x)↔(Y<y∨Y=y∧X<x+1):=by omega
  simp only[e2]
theorem Filled.row {W H:Nat} {M:Nat→List Int} {bits:List Nat} {y:Nat} (h:Filled W H M bits y W):Filled W H M bits (y+1) 0:=by
 refine⟨h.small,h.len,fun X Y hX hY=>?_⟩
 rw[h.pix X Y hX hY]
 have e2:(Y<y∨Y=y∧X<W)↔(Y<y+1∨Y=y+1∧X<0):=by omega
 simp only[e2]
def ConvPost (W H:Nat) (M:Nat→List Int) (w:World) (e:Ending) (w':World):Prop:=
 ∃b bits,w.heap.size<b∧e= .returned (.pointer (some ⟨b,0,none⟩))∧BitM w' b W H bits∧Filled W H M bits H 0∧Below w.heap.size w w'
set_option maxRecDepth 100000 in
set_option maxHeartbeats 8000000 in
theorem conv_calls {w:World} {B W H:Nat} {M:Nat→List Int} (h:BMat w B W H M) (hB:B+1+H<w.heap.size) (hW0:1≤W) (hH0:1≤H) (hW:W≤1000) (hH:H≤1000):
 Calls Tryz.prog 119 #[.pointer (some ⟨B+1+H,0,none⟩),.int .i64 0,.int .i64 0] w (ConvPost W H M w):=by
 have h1:=h.h1
 have h2:=h.h2
 have q1:(W:Int)/(W:Int)=1:=Int.ediv_self (by omega)
 have q2:(H:Int)/(H:Int)=1:=Int.ediv_self (by omega)
 have hrn:rsOf W*H≤100000:=by
  have h0:rsOf W≤33:=by unfold rsOf;omega
  have:rsOf W*H≤33*1000:=Nat.mul_le_mul h0 hH
  omega
 have HM:=Lib.hid h
 clear h
 go_enter Tryz.func119,Tryz.ntmps119
 go_wp2_with (first|(go_at_call 139;refine(newBit_calls W H hW0 hH0 hW hH _).mono ?_;rintro e w1 ⟨rfl,hb1,hbl1,hz1⟩;have HB1:=Lib.hid hb1;have HL1:=Lib.hid hbl1;clear hb1 hbl1)|(go_at_call 140;refine(clear_calls HB1.out hrn).mono ?_;rintro e w2 ⟨rfl,hb2,hbl2⟩;have HB2:=Lib.hid hb2;have HL2:=Lib.hid (HL1.out.trans hbl2);clear hb2 hbl2)|(go_at_call 137;go_in)|(go_at_call 138;go_in))
 go_loopw [16,17] (fun i j wr=>∃y:Nat,y≤H∧i= .int .i64 y∧j= .int .i64 y∧∃bits,Hid (BitM wr (w.heap.size+1) W H bits)∧Hid (Filled W H M bits y 0)∧Hid (Below w.heap.size w wr)) (fun i _ _=>H-(intOf i).toNat)
 case atStart=>exact⟨0,by omega,rfl,rfl,_,HB2,Filled.start W H M,HL2⟩
 case round=>
  clear HB1 HL1 HB2 HL2
  obtain⟨y,hy,rfl,rfl,bits,g1,g2,g3⟩:=hrel
  by_cases hlt:y<H
  ·go_wp2
   go_loopw [18,19] (fun i j wr=>∃x:Nat,x≤W∧i= .int .i64 x∧j= .int .i64 x∧∃bits,Hid (BitM wr (w.heap.size+1) W H bits)∧Hid (Filled W H M bits y x)∧Hid (Below w.heap.size w wr)) (fun i _ _=>W-(intOf i).toNat)
   case atStart=>exact⟨0,by omega,rfl,rfl,_,g1,g2,g3⟩
   case round=>
    clear g1 g2 g3
    obtain⟨x,hx,rfl,rfl,bits,g1,g2,g3⟩:=hrel
    by_cases hltx:x<W
    ·have hmat:=HM.out.below g3.out hB
     have hbit:((M y).getD x 0==1)=true∨((M y).getD x 0==1)=false:=by cases ((M y).getD x 0==1)<;>simp
     rcases hbit with hbit|hbit
     ·have HY:=Lib.hid (g2.out.yes hltx (by simpa using hbit))
      rw[List.getD_eq_getElem?_getD]at hbit
      go_wp2_with (first|(go_at_call 141;refine(getBM_calls hmat x y hltx hlt hW hH).mono ?_;rintro e w1 ⟨rfl,rfl⟩)|(go_at_call 142;refine(setReg_calls g1.out g2.out.small x y hltx hlt hW hH).mono ?_;rintro e w3 ⟨rfl,hb3,hbl3⟩;have HB3:=Lib.hid hb3;have HL3:=Lib.hid (g3.out.trans hbl3);clear hb3 hbl3))
      exact⟨⟨x+1,by omega,by go_num,by go_num,_,HB3,HY,HL3⟩,by simp[intOf];omega⟩
     ·have HY:=Lib.hid (g2.out.no hbit)
      rw[List.getD_eq_getElem?_getD]at hbit
      go_wp2_with (first|(go_at_call 141;refine(getBM_calls hmat x y hltx hlt hW hH).mono ?_;rintro e w1 ⟨rfl,rfl⟩))
      exact⟨⟨x+1,by omega,by go_num,by go_num,_,g1,HY,g3⟩,by simp[intOf];omega⟩
    ·obtain rfl:x=W:=by omega
     have HY:=Lib.hid g2.out.row
     go_wp2
     exact⟨⟨y+1,by omega,by go_num,by go_num,_,g1,HY,g3⟩,by simp[intOf];omega⟩
  ·obtain rfl:y=H:=by omega
   go_wp2
   go_ret
   exact⟨_,_,by omega,rfl,g1.out,g2.out,g3.out⟩
end
section
open Go.RowKit
def spot (m y:Nat):Nat:=y+2*(y/m)
def start (m y:Nat):Nat:=spot m y+(if y%m=0 then 0 else 1)
section
variable {m:Nat} (hm:0<m)
include hm
theorem spot_mod (y:Nat):(spot m y+1)%(m+2)=y%m+1∧(spot m y+1)/(m+2)=y/m:=by
 have h1:=Nat.mod_lt y hm
 have h2:=Nat.div_add_mod y m
 have e:spot m y+1=(y%m+1)+(m+2)*(y/m):=by unfold spot;rw[Nat.add_mul];omega
 rw[e]
 constructor
 ·rw[Nat.add_mul_mod_self_left,Nat.mod_eq_of_lt (by omega)]
 ·rw[Nat.add_mul_div_left _ _ (by omega),Nat.div_eq_of_lt (by omega),Nat.zero_add]
theorem spot_first {y:Nat} (h:y%m=0):spot m y%(m+2)=0:=by
 have _h0:=hm
 have h2:=Nat.div_add_mod y m
 have e:spot m y=(m+2)*(y/m):=by unfold spot;rw[Nat.add_mul];omega
 rw[e,Nat.mul_mod_right]
theorem spot_last {y:Nat} (h:y%m=m-1):(spot m y+2)%(m+2)=m+1:=by
 have h2:=Nat.div_add_mod y m
 have e:spot m y+2=(m+1)+(m+2)*(y/m):=by unfold spot;rw[Nat.add_mul];omega
 rw[e,Nat.add_mul_mod_self_left,Nat.mod_eq_of_lt (by omega)]
theorem spot_lt {y n:Nat} (h:y<n*m):spot m y+2<n*(m+2):=by
 have h2:y/m<n:=(Nat.div_lt_iff_lt_mul hm).2 h
 unfold spot;rw[Nat.mul_add];omega
theorem start_next {y:Nat} (h:y%m≠m-1):start m (y+1)=spot m y+2:=by
 have h1:=Nat.mod_lt y hm
 have h2:=Nat.div_add_mod y m
 have e:y+1=(y%m+1)+m*(y/m):=by omega
 have e1:(y+1)/m=y/m:=by rw[e,Nat.add_mul_div_left _ _ hm,Nat.div_eq_of_lt (by omega),Nat.zero_add]
 have e2:(y+1)%m=y%m+1:=by rw[e,Nat.add_mul_mod_self_left,Nat.mod_eq_of_lt (by omega)]
 unfold start spot;rw[e1,e2,if_neg (by omega)];omega
theorem start_jump {y:Nat} (h:y%m=m-1):start m (y+1)=spot m y+3:=by
 have h2:=Nat.div_add_mod y m
 have e:y+1=m*(y/m+1):=by rw[Nat.mul_add,Nat.mul_one];omega
 have e1:(y+1)/m=y/m+1:=by rw[e,Nat.mul_div_cancel_left _ hm]
 have e2:(y+1)%m=0:=by rw[e,Nat.mul_mod_right]
 unfold start spot;rw[e1,e2,if_pos rfl];omega
theorem start_end (n:Nat):start m (n*m)=n*(m+2):=by
 unfold start spot;rw[Nat.mul_div_cancel _ hm,Nat.mul_mod_left,if_pos rfl,Nat.mul_add];omega
end
theorem start_zero (m:Nat):start m 0=0:=by simp[start,spot]
def modT (mw mh dw:Nat) (bits:List Int) (Y X:Nat):Int:=
 if Y%(mh+2)=0 then b2i ((X:Int)%2==0)else if Y%(mh+2)=mh+1 then 1
 else if X%(mw+2)=0 then 1
 else if X%(mw+2)=mw+1 then b2i (((Y/(mh+2)*mh+(Y%(mh+2)-1):Nat):Int)%2==0)
 else b2i (bits.getD ((Y/(mh+2)*mh+(Y%(mh+2)-1))*dw+(X/(mw+2)*mw+(X%(mw+2)-1))) 0==1)
section
variable {mw mh dw:Nat} {bits:List Int} (hw:0<mw) (hh:0<mh)
include hh
theorem modT_top {y:Nat} (h:y%mh=0) (X:Nat):modT mw mh dw bits (spot mh y) X=b2i ((X:Int)%2==0):=by
 unfold modT;rw[spot_first hh h,if_pos rfl]
theorem modT_bot {y:Nat} (h:y%mh=mh-1) (X:Nat):modT mw mh dw bits (spot mh y+2) X=1:=by
 unfold modT;rw[spot_last hh h,if_neg (by omega),if_pos rfl]
theorem row_back (y:Nat):(spot mh y+1)/(mh+2)*mh+((spot mh y+1)%(mh+2)-1)=y:=by
 rw[(spot_mod hh y).1,(spot_mod hh y).2]
 have h2:=Nat.div_add_mod y mh
 rw[Nat.mul_comm];omega
include hw
theorem modT_left (y:Nat) {x:Nat} (h:x%mw=0):modT mw mh dw bits (spot mh y+1) (spot mw x)=1:=by
 unfold modT
 have:=Nat.mod_lt y hh
 rw[(spot_mod hh y).1,if_neg (by omega),if_neg (by omega),spot_first hw h,if_pos rfl]
theorem modT_right (y:Nat) {x:Nat} (h:x%mw=mw-1):modT mw mh dw bits (spot mh y+1) (spot mw x+2)=b2i ((y:Int)%2==0):=by
 unfold modT
 rw[row_back hh y]
 have:=Nat.mod_lt y hh
 rw[(spot_mod hh y).1,if_neg (by omega),if_neg (by omega),spot_last hw h,if_neg (by omega),if_pos rfl]
theorem modT_mid (y x:Nat):modT mw mh dw bits (spot mh y+1) (spot mw x+1)=b2i (bits.getD (y*dw+x) 0==1):=by
 unfold modT
 rw[row_back hh y,row_back hw x]
 have:=Nat.mod_lt y hh
 have:=Nat.mod_lt x hw
 rw[(spot_mod hh y).1,(spot_mod hw x).1,if_neg (by omega),if_neg (by omega),if_neg (by omega),if_neg (by omega)]
end
def Painted (sw sh:Nat) (T:Nat→Nat→Int) (M:Nat→List Int) (Y X:Nat):Prop:=
 ∀Y' X',X'<sw→Y'<sh→(Y'<Y∨Y'=Y∧X'<X)→(M Y').getD X' 0=T Y' X'
theorem Painted.put {sw sh:Nat} {T:Nat→Nat→Int} {M:Nat→List Int} {Y X:Nat} (h:Painted sw sh T M Y X) (hl:(M Y).length=sw) {v:Int} (hT:T Y X=v):
 Painted sw sh T (putM M Y X v) Y (X+1):=by
 intro Y' X' hX hY hlt
 unfold putM
 by_cases e:Y'=Y
 ·subst e
  rw[if_pos rfl,List.getD_eq_getElem?_getD,List.getElem?_set]
  by_cases e2:X=X'
  ·subst e2;rw[if_pos rfl,if_pos (by omega),←hT];rfl
  ·rw[if_neg e2,←List.getD_eq_getElem?_getD]
   exact h Y' X' hX hY (by omega)
 ·rw[if_neg e];exact h Y' X' hX hY (by omega)
theorem Painted.row {sw sh:Nat} {T:Nat→Nat→Int} {M:Nat→List Int} {Y:Nat} (h:Painted sw sh T M Y sw):Painted sw sh T M (Y+1) 0:=
 fun Y' X' hX hY hlt=>h Y' X' hX hY (by omega)
theorem Painted.zero (sw sh:Nat) (T:Nat→Nat→Int) (M:Nat→List Int):Painted sw sh T M 0 0:=fun _ _ _ _ h=>by omega
structure Paint (w wr:World) (B sw sh:Nat) (T:Nat→Nat→Int) (Y X:Nat) (M:Nat→List Int):Prop where
 mat:BMat wr B sw sh M
 done:Painted sw sh T M Y X
 below:Below w.heap.size w wr
 base:w.heap.size≤B
theorem Paint.drewN {w wr:World} {B sw sh:Nat} {T:Nat→Nat→Int} {Y X:Nat} {M:Nat→List Int} (h:Paint w wr B sw sh T Y X M) (n:Nat):Paint w (wr.drewN n) B sw sh T Y X M:=
 ⟨h.mat.drewN n,h.done,below_dr h.below n,h.base⟩
theorem Paint.row {w wr:World} {B sw sh:Nat} {T:Nat→Nat→Int} {Y:Nat} {M:Nat→List Int} (h:Paint w wr B sw sh T Y sw M):Paint w wr B sw sh T (Y+1) 0 M:=
 ⟨h.mat,h.done.row,h.below,h.base⟩
theorem setI {w wr:World} {B sw sh:Nat} {T:Nat→Nat→Int} {Y X:Nat} {M:Nat→List Int} (h:Paint w wr B sw sh T Y X M) (v:Bool) (xi yi:Int)
 (ex:xi=(X:Int)) (ey:yi=(Y:Int)) (hx:X<sw) (hy:Y<sh) (hw:sw≤1000) (hh:sh≤1000) (hT:T Y X=b2i v):
 Calls Tryz.prog 117 #[.pointer (some ⟨B+1+sh,0,none⟩),.int .i64 xi,.int .i64 yi,.bool v] wr fun e w'=>e= .returned (.tuple #[])∧∃M',Paint w w' B sw sh T Y (X+1) M':=by
 subst ex ey
 exact(setBool_calls h.mat X Y v hx hy hw hh).mono fun e w' ⟨h1,h2,h3⟩=>⟨h1,_,h2,h.done.put (h.mat.len Y hy) hT,h.below.trans (h3.mono h.base),h.base⟩
theorem PMem.below' {w0 w w':World} {b bb cb cap rows cols B:Nat} {cw:List Nat} {bits:List Int} (h:PMem w0 w b bb cb cap rows cols cw bits) (hb:Below B w w')
 (h0:w0.heap.size≤B) (h1:b<B) (h2:bb<B) (h3:cb<B):PMem w0 w' b bb cb cap rows cols cw bits:=
 ⟨(hb.block _ h1).trans h.blk,h.row.below hb h2,h.byt.below hb h3,h.below.trans (hb.mono h0),h.base,h.n1,h.n2,h.len,h.r0,h.r1,h.c0,h.c1⟩
theorem lt_of_some {w:World} {s:Nat} {o:Obj} (h:w.heap[s]? =some o):s<w.heap.size:=by
 rcases Nat.lt_or_ge s w.heap.size with h2|h2
 ·exact h2
 ·rw[Array.getElem?_eq_none h2]at h;cases h
theorem start_paint {w wm:World} {sw sh n:Nat} {T:Nat→Nat→Int} {M:Nat→List Int} (h:BMat wm (w.drewN n).heap.size sw sh M) (hb:Below (w.drewN n).heap.size (w.drewN n) wm):Paint w wm w.heap.size sw sh T 0 0 M:=
 ⟨h,Painted.zero _ _ _ _,⟨hb.os,hb.tape,hb.output,hb.size,hb.block⟩,Nat.le_refl _⟩
theorem mwget_calls (b i:Nat) (w:World) (h:w.heap[b]? =some (.cells (siOf i) 112)):
 Calls Tryz.prog 118 #[.pointer (some ⟨b,0,none⟩)] w fun e w'=>e= .returned (.int .i64 (mwOf i))∧w'=w:=by
 have c:=si_mw h
 clear h
 go_enter Tryz.func118,Tryz.ntmps118
 go_wp2
 go_ret
 exact⟨rfl,rfl⟩
theorem mhget_calls (b i:Nat) (w:World) (h:w.heap[b]? =some (.cells (siOf i) 112)):
 Calls Tryz.prog 116 #[.pointer (some ⟨b,0,none⟩)] w fun e w'=>e= .returned (.int .i64 (mhOf i))∧w'=w:=by
 have c:=si_mh h
 clear h
 go_enter Tryz.func116,Tryz.ntmps116
 go_wp2
 go_ret
 exact⟨rfl,rfl⟩
end
end Go.Proofs.YtcnallabiffemaaGreatDoor
