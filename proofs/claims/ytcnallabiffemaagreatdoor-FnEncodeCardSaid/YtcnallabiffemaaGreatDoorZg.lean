/- The writer, behind the codewords. -/
import Derived.Test.YtcnallabiffemaaGreatDoorZe5
import Derived.Test.YtcnallabiffemaaGreatDoorZf5
set_option linter.unusedVariables false
set_option linter.unusedSimpArgs false
namespace Go.Proofs.YtcnallabiffemaaGreatDoor
section
open Go.RowKit
def upTo (n k:Nat):List Int:=List.replicate k (-1)++List.replicate (n-k) 0
theorem upTo_zero (n:Nat):upTo n 0=zs n:=by simp[upTo,zs]
theorem upTo_full (n:Nat):upTo n n=List.replicate n (-1):=by simp[upTo]
theorem upTo_len {n k:Nat} (h:k≤n):(upTo n k).length=n:=by simp[upTo];omega
theorem upTo_set {n k:Nat} (h:k<n):(upTo n k).set k (-1)=upTo n (k+1):=by
 unfold upTo
 rw[List.set_append_right _ _ (by simp)]
 obtain⟨m,hm⟩:∃m,n-k=m+1:=⟨n-k-1,by omega⟩
 rw[hm,show n-(k+1)=m by omega]
 rw[List.replicate_succ' (n:=k),List.append_assoc]
 simp[List.replicate_succ]
def NewPPost (cb cap rows cols:Nat) (cw:List Nat) (w:World) (e:Ending) (w':World):Prop:=
 e= .returned (.pointer (some ⟨w.heap.size+1,0,none⟩))∧PMem w w' (w.heap.size+1) w.heap.size cb cap rows cols cw (foldE rows cols cw [])∧w.heap.size+2≤w'.heap.size
set_option maxRecDepth 100000 in
set_option maxHeartbeats 4000000 in
theorem newP_calls {w:World} {cb cap rows cols:Nat} {cw:List Nat} (hcw:Bytes w cb cw) (r0:6≤rows) (r1:rows≤1000) (c0:6≤cols) (c1:cols≤1000):
 Calls Tryz.prog 54 #[.slice (some ⟨cb,0,none⟩) cw.length cap,.int .i64 cols,.int .i64 rows] w (NewPPost cb cap rows cols cw w):=by
 have hb0:rows*cols≤1000*1000:=Nat.mul_le_mul r1 c1
 have hb1:((rows*cols:Nat):Int)=(cols:Int)*(rows:Int):=by rw[Nat.mul_comm];simp
 obtain⟨n,hn⟩:∃n,n=rows*cols:=⟨_,rfl⟩
 rw[←hn]at hb0 hb1
 have hb2:(cols:Int)*(rows:Int)=(n:Int):=hb1.symm
 have hm:=make136 (n:Int) (by omega) (by omega)
 rw[Int.toNat_natCast]at hm
 have HN:=Lib.hid hn
 have HC:=Lib.hid hcw
 clear hb1 hn hcw
 go_enter Tryz.func54,Tryz.ntmps54
 go_wp2
 go_loopw [23] (fun i wr=>∃k:Nat,k≤n∧i= .int .i64 k∧Hid (wr.heap[w.heap.size+1]? =some (.cells #[.slice (some ⟨cb,0,none⟩) cw.length cap,.int .i64 rows,.int .i64 cols,.slice (some ⟨w.heap.size,0,none⟩) n n] 138))∧Hid (Row wr w.heap.size .i8 139 (upTo n k))∧Hid (Below w.heap.size w wr)∧w.heap.size+2≤wr.heap.size) (fun i _=>n-(intOf i).toNat)
 case atStart=>
  refine⟨0,by omega,rfl,new_last (by simp) _,?_,((Below.refl _ _).alloc (Nat.le_refl _) _).alloc (by simp) _,by simp⟩
  rw[upTo_zero]
  exact(Row.new _ _ _ _).alloc _
 case round=>
  obtain⟨k,hk,rfl,h1,h2,h3,h4⟩:=hrel
  have k3:wr.cell? ⟨w.heap.size+1,3,none⟩=some (.slice (some ⟨w.heap.size,0,none⟩) n n):=by rw[cell_blk h1.out];rfl
  by_cases hlt:k<n
  ·have f2:=h2.out.free k
   have cx:=h2.out.cell (i:=k) (by rw[upTo_len hk];exact hlt)
   have S:=h2.out.set k (-1)
   rw[upTo_set hlt]at S
   have SS:=Lib.hid S
   clear S
   have S1:=Lib.hid (show (wr.setCell ⟨w.heap.size,k,none⟩ (.int .i8 (-1))).heap[w.heap.size+1]? =some (.cells #[.slice (some ⟨cb,0,none⟩) cw.length cap,.int .i64 rows,.int .i64 cols,.slice (some ⟨w.heap.size,0,none⟩) n n] 138) by rw[Below.heap_setCell _ _ _ _ (by simp)];exact h1.out)
   have S2:=Lib.hid (h3.out.setCell (p:=⟨w.heap.size,k,none⟩) (Nat.le_refl _) (.int .i8 (-1)))
   go_wp2
   exact⟨⟨k+1,by omega,by go_num,S1,SS,S2,by simp[World.setCell];omega⟩,by simp[intOf];omega⟩
  ·obtain rfl:n=k:=by omega
   go_wp2
   go_ret
   have hlen:(foldE rows cols cw []).length=n:=by rw[foldE,List.length_replicate,HN.out]
   have hfe:foldE rows cols cw []=upTo n n:=by rw[upTo_full,foldE,HN.out]
   refine⟨rfl,⟨?_,?_,HC.out.below h3.out HC.out.1,h3.out,Nat.le_refl _,by omega,by have:=HC.out.1;omega,?_,r0,r1,c0,c1⟩,h4⟩
   ·rw[hlen];exact h1.out
   ·rw[hfe];exact h2.out
   ·rw[hlen,HN.out]
end
section
open Go.RowKit
def mwN (i:Nat):Nat:=(mwOf i).toNat
def mhN (i:Nat):Nat:=(mhOf i).toNat
def nhN (i:Nat):Nat:=(hReg (regOf i)).toNat
def nvN (i:Nat):Nat:=(vReg (regOf i)).toNat
def dwN (i:Nat):Nat:=nhN i*mwN i
def dhN (i:Nat):Nat:=nvN i*mhN i
def swN (i:Nat):Nat:=nhN i*(mwN i+2)
def shN (i:Nat):Nat:=nvN i*(mhN i+2)
def totN (i:Nat):Nat:=(dataOf i+checkOf i).toNat
theorem dims1 {i:Nat} (hi:i<29):mwOf i=(mwN i:Int)∧mhOf i=(mhN i:Int)∧dwOf i=(dwN i:Int)∧dhOf i=(dhN i:Int)∧swOf i=(swN i:Int)∧shOf i=(shN i:Int):=by
 have:∀i,i<29→mwOf i=(mwN i:Int)∧mhOf i=(mhN i:Int)∧dwOf i=(dwN i:Int)∧dhOf i=(dhN i:Int)∧swOf i=(swN i:Int)∧shOf i=(shN i:Int):=by decide+kernel
 exact this i hi
theorem dims2 {i:Nat} (hi:i<29):6≤mwN i∧6≤mhN i∧mwN i≤24∧mhN i≤24∧6≤dwN i∧dwN i≤1000∧6≤dhN i∧dhN i≤1000∧1≤swN i∧swN i≤1000∧1≤shN i∧shN i≤1000∧1≤totN i∧totN i≤4000:=by
 have:∀i,i<29→6≤mwN i∧6≤mhN i∧mwN i≤24∧mhN i≤24∧6≤dwN i∧dwN i≤1000∧6≤dhN i∧dhN i≤1000∧1≤swN i∧swN i≤1000∧1≤shN i∧shN i≤1000∧1≤totN i∧totN i≤4000:=by decide+kernel
 exact this i hi
theorem dims3 {i:Nat} (hi:i<29):∃f,placeG (dhN i) (dwN i)=some f∧f.evs.length=totN i:=by
 have:∀i,i<29→(dhN i,dwN i,totN i)∈sizes:=by decide+kernel
 exact placeG_ok _ (this i hi)
def HighPost (cw:List Nat) (w:World) (e:Ending) (w':World):Prop:=
 ∃v,e= .returned (.tuple #[v,.nilIface])∧Own w' w.heap.size .u8 5 v cw∧Below w.heap.size w w'
def bitsOf (i:Nat) (out:List Nat) (f:PS):List Int:=finishB (dhN i) (dwN i) (foldE (dhN i) (dwN i) out f.evs)
def WritePost (sw sh mw mh dw:Nat) (bits:List Int) (w:World) (e:Ending) (w':World):Prop:=
 ∃b bm,w.heap.size≤b∧e= .returned (.tuple #[.pointer (some ⟨b,0,none⟩),.nilIface])∧BitM w' b sw sh bm∧Small32 bm∧
  (∀X Y,X<sw→Y<sh→pixel sw bm X Y=(modT mw mh dw bits Y X==1))∧Below w.heap.size w w'
def RowPost (xs:List Nat) (w:World) (e:Ending) (w':World):Prop:=
 ∃g cap,e= .returned (.tuple #[.slice (some ⟨g,0,none⟩) xs.length cap,.nilIface])∧Bytes w' g xs∧Below w.heap.size w w'
theorem RowPost.of {xs:List Nat} {w w':World} {e:Ending} {v:Value} (h1:1≤xs.length) (he:e= .returned (.tuple #[v,.nilIface])) (ho:Own w' w.heap.size .u8 5 v xs) (hb:Below w.heap.size w w'):RowPost xs w e w':=by
 rcases ho.look with⟨_,hnil⟩|⟨g1,cap1,rest1,rfl,hg1,_⟩
 ·rw[hnil]at h1;exact absurd h1 (by decide)
 ·exact⟨_,_,he,ho.bytes,hb⟩
theorem lookI_calls {data:Int} {shape i:Nat} (hs:shape<3) (hl:lookSym data shape=some i) (w:World):
 Calls Tryz.prog 42 #[.int .i64 data,.int .i64 shape,.pointer none,.pointer none,.bool true] w fun e w'=>
  ∃b,e= .returned (.tuple #[.pointer (some ⟨b,0,none⟩),.nilIface])∧b<w'.heap.size∧w'.heap[b]? =some (.cells (siOf i) 112)∧Below w.heap.size w w':=by
 refine(lookup_calls data shape hs w).mono ?_
 rintro e w' ⟨hb,hp⟩
 rw[hl]at hp
 rcases hp with⟨j,b,hj,he,_,hb2,hsi⟩|⟨hno,_⟩
 ·injection hj with hj;subst hj;exact⟨b,he,hb2,hsi,hb⟩
 ·cases hno
theorem dr_below {w w':World} {n:Nat} (hb:Below (w.drewN n).heap.size (w.drewN n) w'):Below w.heap.size w w':=⟨hb.os,hb.tape,hb.output,hb.size,hb.block⟩
theorem dr_blk {w w':World} {n b:Nat} {o:Obj} (hb:Below (w.drewN n).heap.size (w.drewN n) w') (h:w.heap[b]? =some o):w'.heap[b]? =some o:=
 (hb.block b (lt_of_some h)).trans h
set_option maxRecDepth 100000 in
set_option maxHeartbeats 8000000 in
theorem write_calls0 {w:World} {s:ByteArray} {shape i mw mh nh nv sw sh dw dh tot:Nat} {cw out:List Nat} {f:PS} {bits:List Int} (hne:s.toList.isEmpty=false) (hsh:shape<3) (hi:i<29) (hc1:1≤cw.length)
 (h46:Calls Tryz.prog 46 #[.string s,.int .i64 shape,.pointer none,.pointer none] w (HighPost cw w)) (HL:Hid (lookSym (cw.length:Int) shape=some i))
 (henc:∀(wx:World) (b cb cap:Nat),wx.heap[b]? =some (.cells (siOf i) 112)→Bytes wx cb cw→Calls Tryz.prog 59 #[.slice (some ⟨cb,0,none⟩) cw.length cap,.pointer (some ⟨b,0,none⟩)] wx (EncPost out wx))
 (HSO:Hid (Small out)) (HLO:Hid (out.length=tot)) (HF:Hid (placeG dh dw=some f)) (hfl:f.evs.length=tot) (HBI:Hid (finishB dh dw (foldE dh dw out f.evs)=bits))
 (HD:Hid (mwOf i=(mw:Int)∧mhOf i=(mh:Int)∧dwOf i=(dw:Int)∧dhOf i=(dh:Int)∧swOf i=(sw:Int)∧shOf i=(sh:Int)))
 (HQ:Hid (dw=nh*mw∧dh=nv*mh∧sw=nh*(mw+2)∧sh=nv*(mh+2)))
 (e1:6≤mw) (e2:6≤mh) (e3:mw≤24) (e4:mh≤24) (e5:6≤dw) (e6:dw≤1000) (e7:6≤dh) (e8:dh≤1000) (e9:1≤sw) (e10:sw≤1000) (e11:1≤sh) (e12:sh≤1000) (e13:1≤tot) (e14:tot≤4000):
 Calls Tryz.prog 30 #[.string s,.int .i64 shape] w (WritePost sw sh mw mh dw bits w):=by
 go_enter Tryz.func30,Tryz.ntmps30
 go_wp2_with (first|(go_at_call 46;refine(h46.mono fun e w' ⟨v,k1,k2,k3⟩=>RowPost.of hc1 k1 k2 k3).mono ?_;rintro e w1 ⟨g1,cap1,rfl,o1,b1⟩;have O1:=Lib.hid o1;have B1:=Lib.hid b1;clear o1 b1)|(go_at_call 42;refine(lookI_calls hsh HL.out _).mono ?_;rintro e w2 ⟨bs,rfl,hbs,hsi,b2⟩;have O2:=Lib.hid (O1.out.below b2 O1.out.1);have B2:=Lib.hid (B1.out.trans (b2.mono B1.out.size));have HSI:=Lib.hid hsi;have HBS:=Lib.hid hbs;clear b2 hsi hbs)|(go_at_call 59;refine((henc _ _ _ _ HSI.out O2.out).mono fun e w' ⟨v,k1,k2,k3⟩=>RowPost.of (by rw[HLO.out];exact e13) k1 k2 k3).mono ?_;rintro e w3 ⟨g3,cap3,rfl,o3,b3⟩;have O3:=Lib.hid o3;have B3:=Lib.hid (B2.out.trans (b3.mono B2.out.size));have HSJ:=Lib.hid ((b3.block _ HBS.out).trans HSI.out);clear o3 b3)|(go_at_call 63;refine(dwN_calls _ i _ (by omega) HD.out.2.2.1 HSJ.out).mono ?_;rintro e w' ⟨rfl,n1,rfl⟩)|(go_at_call 64;refine(dhN_calls _ i _ (by omega) HD.out.2.2.2.1 (blk_drewN HSJ.out)).mono ?_;rintro e w' ⟨rfl,n2,rfl⟩)|(go_at_call 54;refine(newP_calls (O3.out.drewN (n1+n2)) e7 e8 e5 e6).mono ?_;rintro e w4 ⟨rfl,p4,z4⟩;have P4:=Lib.hid p4;have B4:=Lib.hid (B3.out.trans ((dr_below p4.below).mono B3.out.size));have HSK:=Lib.hid (dr_blk p4.below HSJ.out);clear p4 z4)|(go_at_call 55;refine(place_calls P4.out HSO.out f HF.out (by rw[hfl,HLO.out];exact Nat.le_refl _) (by rw[HLO.out];exact e14)).mono ?_;rintro e w5 ⟨rfl,p5⟩;rw[HBI.out]at p5;have P5:=Lib.hid p5;have B5:=Lib.hid (B3.out.trans ((dr_below p5.below).mono B3.out.size));have HSM:=Lib.hid (dr_blk p5.below HSJ.out);clear p5)|(go_at_call 65;refine(low_calls (nw:=0) P5.out (by omega) HSM.out P5.out.below.size (lt_of_some P5.out.blk) P5.out.row.lt P5.out.byt.1 HD.out.1 HD.out.2.1 HD.out.2.2.1 HD.out.2.2.2.1 HD.out.2.2.2.2.1 HD.out.2.2.2.2.2 HQ.out.1 HQ.out.2.1 HQ.out.2.2.1 HQ.out.2.2.2 e1 e2 e3 e4 e9 e11 e10 e12).mono ?_;rintro e w6 ⟨b6,bm6,hb6,rfl,m6,k6,x6,b7⟩;have K6:=Lib.hid (And.intro hb6 (And.intro m6 (And.intro k6 (And.intro x6 b7))));clear hb6 m6 k6 x6 b7))
 go_ret2
 obtain⟨hb6,m6,k6,x6,b7⟩:=K6.out
 exact⟨_,_,by have:=B5.out.size;omega,rfl,m6,k6,x6,B5.out.trans (b7.mono B5.out.size)⟩
theorem write_calls {w:World} {s:ByteArray} {shape i:Nat} {cw out:List Nat} {f:PS} (hne:s.toList.isEmpty=false) (hsh:shape<3) (hi:i<29) (hc1:1≤cw.length)
 (h46:Calls Tryz.prog 46 #[.string s,.int .i64 shape,.pointer none,.pointer none] w (HighPost cw w)) (hlook:lookSym (cw.length:Int) shape=some i)
 (henc:∀(wx:World) (b cb cap:Nat),wx.heap[b]? =some (.cells (siOf i) 112)→Bytes wx cb cw→Calls Tryz.prog 59 #[.slice (some ⟨cb,0,none⟩) cw.length cap,.pointer (some ⟨b,0,none⟩)] wx (EncPost out wx))
 (hso:Small out) (hlo:out.length=totN i) (hf:placeG (dhN i) (dwN i)=some f) (hfl:f.evs.length=totN i):
 Calls Tryz.prog 30 #[.string s,.int .i64 shape] w (WritePost (swN i) (shN i) (mwN i) (mhN i) (dwN i) (bitsOf i out f) w):=by
 obtain⟨e1,e2,e3,e4,e5,e6,e7,e8,e9,e10,e11,e12,e13,e14⟩:=dims2 hi
 exact write_calls0 hne hsh hi hc1 h46 hlook henc hso hlo hf hfl rfl (dims1 hi) ⟨rfl,rfl,rfl,rfl⟩ e1 e2 e3 e4 e5 e6 e7 e8 e9 e10 e11 e12 e13 e14
end
end Go.Proofs.YtcnallabiffemaaGreatDoor
