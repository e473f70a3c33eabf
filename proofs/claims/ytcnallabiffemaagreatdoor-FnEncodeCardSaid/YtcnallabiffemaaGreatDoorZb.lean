/- The logarithms of the field that the encoder makes. -/
import Derived.Test.YtcnallabiffemaaGreatDoorZa
set_option linter.unusedVariables false
set_option linter.unusedSimpArgs false
namespace Go.Proofs.YtcnallabiffemaaGreatDoor
section
open Go.RowKit
def irow (k:IntKind) (xs:List Int):Array Value:=(xs.map (Value.int k)).toArray
def zs (n:Nat):List Int:=List.replicate n 0
@[simp] theorem size_irow (k:IntKind) (xs:List Int):(irow k xs).size=xs.length:=by simp[irow]
@[simp] theorem length_zs (n:Nat):(zs n).length=n:=by simp[zs]
theorem getD_zs (n i:Nat):(zs n).getD i 0=0:=by
 simp only[zs,List.getD_eq_getElem?_getD,List.getElem?_replicate];split<;>rfl
theorem irow_get (k:IntKind) (xs:List Int) (i:Nat) (h:i<xs.length):(irow k xs)[i]? =some (.int k (xs.getD i 0)):=by
 simp[irow,h]
theorem irow_set (k:IntKind) (xs:List Int) (i:Nat) (v:Int):(irow k xs).setIfInBounds i (.int k v)=irow k (xs.set i v):=by
 simp[irow,List.map_set]
def Row (w:World) (b:Nat) (k:IntKind) (T:TypeId) (xs:List Int):Prop:=w.heap[b]? =some (.cells (irow k xs) T)
section
variable {w w':World} {b:Nat} {k:IntKind} {T:TypeId} {xs:List Int}
theorem Row.lt (h:Row w b k T xs):b<w.heap.size:=by
 unfold Row at h;exact(Array.getElem?_eq_some_iff.1 h).1
theorem Row.cell (h:Row w b k T xs) {i:Nat} (hi:i<xs.length):w.cell? ⟨b,i,none⟩=some (.int k (xs.getD i 0)):=by
 rw[cell_blk h,irow_get _ _ _ hi]
theorem Row.free (h:Row w b k T xs) (i:Nat):w.frozen? ⟨b,i,none⟩=false:=frozen_blk h i
theorem Row.below {B:Nat} (h:Row w b k T xs) (hb:Below B w w') (hB:b<B):Row w' b k T xs:=(hb.block b hB).trans h
theorem Row.alloc (h:Row w b k T xs) (o:Obj):Row (w.alloc o) b k T xs:=by
 have:=h.lt
 unfold Row;rw[Below.heap_alloc _ _ _ this];exact h
theorem Row.set_ne (h:Row w b k T xs) {a:Addr} (ha:b≠a.block) (u:Value):Row (w.setCell a u) b k T xs:=by
 unfold Row;rw[Below.heap_setCell _ _ _ _ ha];exact h
theorem heap_setCell_at {w:World} {b:Nat} {cs:Array Value} {T:TypeId} {fr:Nat×Nat} (h:w.heap[b]? =some (.cells cs T fr)) (i:Nat) (v:Value):
 (w.setCell ⟨b,i,none⟩ v).heap[b]? =some (.cells (cs.setIfInBounds i v) T fr):=by
 simp[World.setCell,Array.getElem?_modify,h]
theorem Row.set (h:Row w b k T xs) (i:Nat) (v:Int):Row (w.setCell ⟨b,i,none⟩ (.int k v)) b k T (xs.set i v):=by
 unfold Row;rw[heap_setCell_at h,irow_set]
theorem Row.drewN (h:Row w b k T xs) (n:Nat):Row (w.drewN n) b k T xs:=h
theorem Row.drew (h:Row w b k T xs):Row w.drew b k T xs:=h
theorem Row.new (w:World) (k:IntKind) (T:TypeId) (xs:List Int):Row (w.alloc (.cells (irow k xs) T)) w.heap.size k T xs:=by
 unfold Row;rw[alloc_heap];simp
end
theorem madeCells_int (k:IntKind) (n:Nat):madeCells #[.int k 0] n=irow k (zs n):=by
 apply Array.toList_inj.1
 rw[toList_madeCells_one];simp[irow,zs]
theorem Tryz.inf3:(Tryz.prog.info? 3).map (fun i=>(i.zero,i.size,i.bytes))=some (some (.int .i64 0),1,8):=by kernel_rfl
theorem Tryz.inf5:(Tryz.prog.info? 5).map (fun i=>(i.zero,i.size,i.bytes))=some (some (.int .u8 0),1,1):=by kernel_rfl
theorem Tryz.inf139:(Tryz.prog.info? 139).map (fun i=>(i.zero,i.size,i.bytes))=some (some (.int .i8 0),1,1):=by kernel_rfl
theorem Tryz.inf102:(Tryz.prog.info? 102).map (fun i=>(i.zero,i.size,i.bytes))=some (some (.int .u32 0),1,4):=by kernel_rfl
theorem Tryz.inf49:(Tryz.prog.info? 49).map (fun i=>(i.zero,i.size,i.bytes))=some (some (.slice none 0 0),1,24):=by kernel_rfl
theorem Tryz.inf28:(Tryz.prog.info? 28).map (fun i=>(i.zero,i.size,i.bytes))=some (some (.slice none 0 0),1,24):=by kernel_rfl
theorem Tryz.inf136:(Tryz.prog.info? 136).map (fun i=>(i.zero,i.size,i.bytes))=some (some (.slice none 0 0),1,24):=by kernel_rfl
theorem make_int {T E:TypeId} {k:IntKind} {bytes:Nat} (ht:Tryz.prog.underlying T=some (.slice E)) (hi:(Tryz.prog.info? E).map (fun i=>(i.zero,i.size,i.bytes))=some (some (.int k 0),1,bytes))
 (hB:bytes≤8) (l c:Int) (h0:0≤l) (h1:l≤c) (h2:c≤4000000000) (w:World):
 (Instr.makeSlice T (.int .i64 l) (.int .i64 c)).run Tryz.prog w= .ok (.slice (some ⟨w.heap.size,0,none⟩) l.toNat c.toNat) (w.alloc (.cells (irow k (zs c.toNat)) E)):=by
 obtain⟨i,h,hz,hs,hb⟩:=info_parts hi
 have hb8:(i.bytes:Int)≤8:=by omega
 have:(i.bytes:Int)*c≤8*4000000000:=Int.mul_le_mul hb8 h2 (by omega) (by omega)
 rw[run_make w T E i _ ht h hz .i64 .i64 l c h0 h1 (by omega) (by omega),hs,Nat.mul_one,show (Value.int k 0).cells= #[Value.int k 0]from rfl,madeCells_int]
theorem make28 (c:Int) (h1:0≤c) (h2:c≤4000000000) (w:World):
 (Instr.makeSlice 28 (.int .i64 c) (.int .i64 c)).run Tryz.prog w= .ok (.slice (some ⟨w.heap.size,0,none⟩) c.toNat c.toNat) (w.alloc (.cells (irow .i64 (zs c.toNat)) 3)):=
 make_int Tryz.underlying28 Tryz.inf3 (by omega) c c h1 (by omega) h2 w
theorem make49 (l c:Int) (h0:0≤l) (h1:l≤c) (h2:c≤4000000000) (w:World):
 (Instr.makeSlice 49 (.int .i64 l) (.int .i64 c)).run Tryz.prog w= .ok (.slice (some ⟨w.heap.size,0,none⟩) l.toNat c.toNat) (w.alloc (.cells (irow .u8 (zs c.toNat)) 5)):=
 make_int Tryz.underlying49 Tryz.inf5 (by omega) l c h0 h1 h2 w
theorem make136 (c:Int) (h1:0≤c) (h2:c≤4000000000) (w:World):
 (Instr.makeSlice 136 (.int .i64 c) (.int .i64 c)).run Tryz.prog w= .ok (.slice (some ⟨w.heap.size,0,none⟩) c.toNat c.toNat) (w.alloc (.cells (irow .i8 (zs c.toNat)) 139)):=
 make_int Tryz.underlying136 Tryz.inf139 (by omega) c c h1 (by omega) h2 w
theorem make99 (c:Int) (h1:0≤c) (h2:c≤4000000000) (w:World):
 (Instr.makeSlice 99 (.int .i64 c) (.int .i64 c)).run Tryz.prog w= .ok (.slice (some ⟨w.heap.size,0,none⟩) c.toNat c.toNat) (w.alloc (.cells (irow .u32 (zs c.toNat)) 102)):=
 make_int Tryz.underlying99 Tryz.inf102 (by omega) c c h1 (by omega) h2 w
end
section
open Go.RowKit
theorem i64_bits (op:BinOp) (f:Nat→Nat→Nat) (g:BitVec 64→BitVec 64→BitVec 64) (hg:∀x y,(g x y).toNat=f x.toNat y.toNat)
 (hb:∀x y,bits op .i64 x y=IntKind.i64.wrap ((g (BitVec.ofInt 64 x) (BitVec.ofInt 64 y)).toNat:Int))
 (a b:Nat) (ha:a<9223372036854775808) (hbb:b<9223372036854775808) (hf:f a b<9223372036854775808):bits op .i64 (a:Int) (b:Int)=((f a b:Nat):Int):=by
 have h1:(BitVec.ofInt 64 (a:Int)).toNat=a:=by simp[BitVec.toNat_ofInt];omega
 have h2:(BitVec.ofInt 64 (b:Int)).toNat=b:=by simp[BitVec.toNat_ofInt];omega
 rw[hb,hg,h1,h2,IntKind.wrap_i64];omega
theorem xor64 (a b:Nat) (ha:a<2^63) (hb:b<2^63):bits .xor .i64 (a:Int) (b:Int)=((a ^^^ b:Nat):Int):=
 i64_bits .xor (·^^^ ·) (·^^^ ·) (fun _ _=>BitVec.toNat_xor ..) (fun _ _=>rfl) a b ha hb (Nat.xor_lt_two_pow ha hb)
theorem and64 (a b:Nat) (ha:a<2^63) (hb:b<2^63):bits .and .i64 (a:Int) (b:Int)=((a &&& b:Nat):Int):=
 i64_bits .and (·&&& ·) (·&&& ·) (fun _ _=>BitVec.toNat_and ..) (fun _ _=>rfl) a b ha hb (Nat.lt_of_le_of_lt Nat.and_le_left ha)
theorem or64 (a b:Nat) (ha:a<2^63) (hb:b<2^63):bits .or .i64 (a:Int) (b:Int)=((a ||| b:Nat):Int):=
 i64_bits .or (·||| ·) (·||| ·) (fun _ _=>BitVec.toNat_or ..) (fun _ _=>rfl) a b ha hb (Nat.or_lt_two_pow ha hb)
def dblN (p:Nat):Nat:=if 256≤2*p then(2*p) ^^^ 301 else 2*p
def powN:Nat→Nat
 |0=>1
 |i+1=>dblN (powN i)
def alogL:Nat→List Int
 |0=>zs 255
 |i+1=>(alogL i).set i (powN i)
def logL:Nat→List Int
 |0=>zs 256
 |i+1=>(logL i).set (powN i) i
theorem length_alogL (i:Nat):(alogL i).length=255:=by induction i<;>simp_all [alogL]
theorem length_logL (i:Nat):(logL i).length=256:=by induction i<;>simp_all [logL]
theorem dblN_lt {p:Nat} (h:p<256):dblN p<256:=by
 have:∀p,p<256→dblN p<256:=by decide+kernel
 exact this p h
theorem powN_lt (i:Nat):powN i<256:=by
 induction i with
 |zero=>decide
 |succ i ih=>exact dblN_lt ih
theorem dbl_hi {k:Nat} (h:256≤((powN k:Nat):Int)*2):bits .xor .i64 (((powN k:Nat):Int)*2) 301=((powN (k+1):Nat):Int):=by
 have hp:=powN_lt k
 have:=xor64 (2*powN k) 301 (by omega) (by omega)
 rw[show (((powN k:Nat):Int)*2)=((2*powN k:Nat):Int) by omega]
 rw[show (301:Int)=((301:Nat):Int)from rfl,this]
 simp only[powN,dblN]
 rw[if_pos (by omega)]
theorem dbl_lo {k:Nat} (h:((powN k:Nat):Int)*2<256):((powN k:Nat):Int)*2=((powN (k+1):Nat):Int):=by
 simp only[powN,dblN]
 rw[if_neg (by omega)]
 omega
theorem Row.step2 {w wr:World} {B k p:Nat} {l a:List Int} {v u:Int} (hb:Below B w wr) (h1:Row wr B .i64 3 l) (h2:Row wr (B+1) .i64 3 a) (hs:w.heap.size=B):
 Below B w ((wr.setCell ⟨B+1,k,none⟩ (.int .i64 v)).setCell ⟨B,p,none⟩ (.int .i64 u))∧
 Row ((wr.setCell ⟨B+1,k,none⟩ (.int .i64 v)).setCell ⟨B,p,none⟩ (.int .i64 u)) B .i64 3 (l.set p u)∧
 Row ((wr.setCell ⟨B+1,k,none⟩ (.int .i64 v)).setCell ⟨B,p,none⟩ (.int .i64 u)) (B+1) .i64 3 (a.set k v):=
 ⟨(hb.setCell (by simp) _).setCell (by simp) _,(h1.set_ne (by simp) _).set _ _,(h2.set _ _).set_ne (by simp) _⟩
set_option maxRecDepth 100000 in
set_option maxHeartbeats 4000000 in
theorem tables_calls (w:World):
 Calls Tryz.prog 136 #[] w fun en w'=>
  en= .returned (.tuple #[.slice (some ⟨w.heap.size,0,none⟩) 256 256,.slice (some ⟨w.heap.size+1,0,none⟩) 255 255])∧Below w.heap.size w w'∧w.heap.size+2≤w'.heap.size∧
   Row w' w.heap.size .i64 3 (logL 255)∧Row w' (w.heap.size+1) .i64 3 (alogL 255):=by
 have hm1:=make28 256 (by omega) (by omega)
 have hm2:=make28 255 (by omega) (by omega)
 go_enter Tryz.func136,Tryz.ntmps136
 go_wp2
 go_loopw [2,3] (fun p i wr=>∃k:Nat,k≤255∧p= .int .i64 (powN k:Nat)∧i= .int .i64 k∧Below w.heap.size w wr∧w.heap.size+2≤wr.heap.size∧Row wr w.heap.size .i64 3 (logL k)∧Row wr (w.heap.size+1) .i64 3 (alogL k)) (fun _ i _=>255-(intOf i).toNat)
 case atStart=>
  refine⟨0,by omega,rfl,rfl,((Below.refl _ _).alloc (Nat.le_refl _) _).alloc (by simp) _,by simp,(Row.new _ _ _ _).alloc _,?_⟩
  have:=Row.new (w.alloc (Obj.cells (irow IntKind.i64 (zs 256)) 3)) .i64 3 (zs 255)
  simpa[alogL]using this
 case round=>
  obtain⟨k,hk,rfl,rfl,hb,hsz,hr1,hr2⟩:=hrel
  by_cases hlt:k<255
  ·have hp:=powN_lt k
   have c1:=hr1.cell (i:=powN k) (by rw[length_logL];omega)
   have c2:=hr2.cell (i:=k) (by rw[length_alogL];omega)
   have f1:=hr1.free (powN k)
   have f2:=hr2.free k
   obtain⟨s1,s2,s3⟩:=Row.step2 (k:=k) (p:=powN k) (v:=(powN k:Nat)) (u:=k) hb hr1 hr2 rfl
   have S1:=Lib.hid s1
   have S2:=Lib.hid s2
   have S3:=Lib.hid s3
   clear hb hr1 hr2 s1 s2 s3 hm1 hm2
   go_wp2
   ·rename_i hx
    exact⟨⟨k+1,by omega,by rw[dbl_hi hx],by go_num,S1.out,by simp;omega,S2.out,S3.out⟩,by simp[intOf];omega⟩
   ·rename_i hx
    exact⟨⟨k+1,by omega,by rw[dbl_lo hx],by go_num,S1.out,by simp;omega,S2.out,S3.out⟩,by simp[intOf];omega⟩
  ·obtain rfl:k=255:=by omega
   go_wp2
   go_ret2
   exact⟨rfl,hb,hsz,hr1,hr2⟩
end
end Go.Proofs.YtcnallabiffemaaGreatDoor
