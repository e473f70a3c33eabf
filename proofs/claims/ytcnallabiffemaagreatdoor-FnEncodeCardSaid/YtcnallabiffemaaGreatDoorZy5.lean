/- The codewords of a symbol: Taken. -/
import Derived.Test.YtcnallabiffemaaGreatDoorZy
import Derived.StillTailTactics
import Derived.BigQuiet
import Derived.BigRegion
import Derived.Deep.CutRange
import Derived.Deep.DeepCutAuto
set_option linter.unusedVariables false
set_option linter.unusedSimpArgs false
namespace Go.Proofs.YtcnallabiffemaaGreatDoor
open Go.RowKit
structure SymT (j:Nat) (T:Nat→Nat→Int) (out:List Nat) (P:List Int):Prop where
 edge:∀y x,y<syN j 0→x<syN j 1→edgeIs (hN j) (wN j) y x=true→bitN (T y x==1)=edgeV (hN j) (wN j) y x
 inner:∀r c,r<inR0 j→c<inC0 j→whN (hN j-2) r<syN j 0∧whN (wN j-2) c<syN j 1∧bitN (T (whN (hN j-2) r) (whN (wN j-2) c)==1)=wantN out (P.getD (r*inC0 j+c) 0)
 len:out.length=syN j 4+syN j 5
 sm:∀i,out.getD i 0<256
 low:∀n,n<inR0 j*inC0 j→P.getD n 0= -1∨P.getD n 0= -2∨(0≤P.getD n 0∧P.getD n 0<8*(out.length:Int))
 sur:∀z,z<8*out.length→∃i,i<inR0 j*inC0 j∧P.getD i 0=(z:Int)
 plen:P.length=inR0 j*inC0 j
def syO (j:Nat):Obj:= .cells #[.int .i64 (syN j 0),.int .i64 (syN j 1),.int .i64 (syN j 2),.int .i64 (syN j 3),.int .i64 (syN j 4),.int .i64 (syN j 5),.int .i64 (syN j 6)] 30
def TakenPost (j:Nat) (out:List Nat) (w:World) (e:Ending) (w':World):Prop:=
 ∃g,e= .returned (.tuple #[.slice (some ⟨g,0,none⟩) out.length out.length,syV j,.bool true])∧Ints w' g out∧Below w.heap.size w w'
theorem wantN_le1 (cw:List Nat) (z:Int):wantN cw z≤1:=by
 unfold wantN
 split
 ·exact Nat.and_le_right
 ·split<;>omega
theorem shl_lt {m k:Nat} (hm:m≤1) (hk:k≤7):m <<< k<256:=by
 rw[Nat.shiftLeft_eq]
 have h1:2^k≤2^7:=Nat.pow_le_pow_right (by omega) hk
 have h2:m*2^k≤1*2^k:=Nat.mul_le_mul_right _ hm
 omega
theorem wordsT_lt {P:List Int} {m:Nat→Nat} {N:Nat} (hm:∀n,m n≤1):∀n i,(wordsT P m N n).getD i 0<256
 |0,i=>by
  rw[wordsT,List.getD_eq_getElem?_getD,List.getElem?_replicate]
  split<;>simp
 |n+1,i=>by
  rw[wordsT]
  split
  ·rw[List.getD_eq_getElem?_getD,List.getElem?_set]
   split
   ·split
    ·exact Nat.or_lt_two_pow (n:=8) (wordsT_lt hm n _) (shl_lt (hm n) (by omega))
    ·simp
   ·rw[←List.getD_eq_getElem?_getD];exact wordsT_lt hm n i
  ·exact wordsT_lt hm n i
def TkR (j WB bb s5:Nat) (P:List Int) (out:List Nat) (w0:World) (n:Nat) (wr:World):Prop:=
 Row wr WB .i64 3 (nl (wordsT P (fun n=>wantN out (P.getD n 0)) out.length n))∧Row wr bb .i64 3 P∧wr.heap[s5]? =some (syO j)∧wr.heap[w0.heap.size]? =some (.cells #[.int .i64 0,.int .i64 0,.int .i64 0,.int .i64 0,.int .i64 0,.int .i64 0,.int .i64 0] 30)∧Below w0.heap.size w0 wr
section
variable {j WB bb s5 n:Nat} {P:List Int} {out:List Nat} {w0 wr wr':World}
theorem TkR.below (h:TkR j WB bb s5 P out w0 n wr) (hb:Below wr.heap.size wr wr'):TkR j WB bb s5 P out w0 n wr':=
 ⟨h.1.below hb h.1.lt,h.2.1.below hb h.2.1.lt,(hb.block _ (lt_of_blk h.2.2.1)).trans h.2.2.1,(hb.block _ (lt_of_blk h.2.2.2.1)).trans h.2.2.2.1,h.2.2.2.2.trans (hb.mono h.2.2.2.2.size)⟩
theorem TkR.skip (h:TkR j WB bb s5 P out w0 n wr) (hz:P.getD n 0<0):TkR j WB bb s5 P out w0 (n+1) wr:=by
 unfold TkR;rw[wordsT,if_neg (by omega)];exact h
theorem TkR.set (h:TkR j WB bb s5 P out w0 n wr) {p:Nat} (hz:P.getD n 0=(p:Int)) (h1:w0.heap.size<s5) (h2:s5<WB) (h3:WB<bb):
 TkR j WB bb s5 P out w0 (n+1) (wr.setCell ⟨WB,p/8,none⟩ (.int .i64 (((wordsT P (fun n=>wantN out (P.getD n 0)) out.length n).getD (p/8) 0 ||| wantN out (p:Int) <<< (7-p%8):Nat):Int))):=by
 unfold TkR
 rw[wordsT,if_pos (by omega)]
 have e:(P.getD n 0).toNat=p:=by omega
 rw[e,hz]
 refine⟨?_,h.2.1.set_ne (by simp;omega) _,?_,?_,h.2.2.2.2.setCell (by simp;omega) _⟩
 ·have:=h.1.set (p/8) (((wordsT P (fun n=>wantN out (P.getD n 0)) out.length n).getD (p/8) 0 ||| wantN out (p:Int) <<< (7-p%8):Nat):Int)
  have e2:∀(xs:List Nat) (i v:Nat),nl (xs.set i v)=(nl xs).set i (v:Int):=fun xs i v=>by simp[nl,List.map_set]
  rw[e2];exact this
 ·rw[Below.heap_setCell _ _ _ _ (by simp;omega)];exact h.2.2.1
 ·rw[Below.heap_setCell _ _ _ _ (by simp;omega)];exact h.2.2.2.1
end
set_option maxRecDepth 100000 in
set_option maxHeartbeats 8000000 in
theorem taken_calls {j base sh sw gv cv rows cols:Nat} {gs:List (Nat×Nat)} {T:Nat→Nat→Int} {out:List Nat} {P:List Int} {w:World} (hj:j<29) (hsh:sh=syN j 0) (hsw:sw=syN j 1) (hrows:rows=inR0 j) (hcols:cols=inC0 j)
 (h:RowsM w base (.slice (some ⟨gv,0,none⟩) sh cv) gs (matT sw sh T)) (K:SymT j T out P) (hg:gv<w.heap.size)
 (h22:∀w,Calls Tryz.prog 22 #[syV j] w fun e w'=>∃bb,e= .returned (.tuple #[.slice (some ⟨bb,0,none⟩) (rows*cols) (rows*cols),.int .i64 rows,.int .i64 cols])∧Row w' bb .i64 3 P∧Below w.heap.size w w'∧w.heap.size≤bb):
 Calls Tryz.prog 12 #[.slice (some ⟨gv,0,none⟩) sh cv] w (TakenPost j out w):=by
 have HM:=Lib.hid h
 have KK:=Lib.hid K
 have KE:=Lib.hid K.edge
 have KI:=Lib.hid K.inner
 have KW:=Lib.hid K.low
 have E35:=Lib.hid (fun y x (hy:y≤1000) (hx:x≤1000) w=>edge_calls hj hy hx w)
 have W36:=Lib.hid (fun y x (hy:y≤1000) (hx:x≤1000) w=>where_calls hj hy hx w)
 have H22:=Lib.hid h22
 have S34:=fun w=>sized_calls hj w
 rw[←hsh,←hsw]at S34
 have S34:=Lib.hid S34
 obtain⟨q1,q2,d1,d2,r1,r2,w1,w2,b1,b2,b3,b4⟩:=reg_ok j hj
 have hsh1:1≤sh∧sh≤200∧1≤sw∧sw≤200:=by
  have:=(by decide+kernel:∀j,j<29→1≤syN j 0∧1≤syN j 1) j hj
  omega
 have HSH:=Lib.hid hsh
 have HSW:=Lib.hid hsw
 have n0:((sh:Int)==0)=false:=by rw[beq_eq_false_iff_ne];omega
 have hsi:(0:Int)<(sh:Int):=by omega
 obtain⟨g0,cap0,c00,-⟩:=h.at rfl (y:=0) (by omega)
 have hgz:¬gv=w.heap.size:=by omega
 have HRO:=Lib.hid hrows
 have HCO:=Lib.hid hcols
 clear h K h22 hsh hsw q1 q2 hrows hcols
 go_enter Tryz.func12,Tryz.ntmps12
 go_wp2_with (first|(go_at_call 34;refine(S34.out _).mono ?_;rintro e w1 ⟨rfl,hb1⟩;have HB1:=Lib.hid hb1;clear hb1;unfold syV))
 have HBS:Hid (Below w.heap.size w (w1.alloc (syO j))):=Lib.hid (((Below.refl _ _).alloc (Nat.le_refl _) _|>.trans (HB1.out.mono (by simp))).alloc (by have:=HB1.out.size;simp at this;omega) _)
 have HLS:Hid ((w1.alloc (syO j)).heap[w1.heap.size]? =some (syO j)):=Lib.hid (new_last rfl _)
 have hzb:w1.heap[w.heap.size]? =some (.cells #[.int .i64 0,.int .i64 0,.int .i64 0,.int .i64 0,.int .i64 0,.int .i64 0,.int .i64 0] 30):=(HB1.out.block _ (by simp)).trans (new_last rfl _)
 have HZS:Hid ((w1.alloc (syO j)).heap[w.heap.size]? =some (.cells #[.int .i64 0,.int .i64 0,.int .i64 0,.int .i64 0,.int .i64 0,.int .i64 0,.int .i64 0] 30)):=Lib.hid ((Below.heap_alloc w1 (syO j) _ (lt_of_blk hzb)).trans hzb)
 have hs5:w.heap.size<w1.heap.size:=lt_of_blk hzb
 clear hzb
 unfold syO at HBS HLS HZS
 generalize w1.alloc (.cells #[.int .i64 (syN j 0),.int .i64 (syN j 1),.int .i64 (syN j 2),.int .i64 (syN j 3),.int .i64 (syN j 4),.int .i64 (syN j 5),.int .i64 (syN j 6)] 30)=wS at*
 generalize w1.heap.size=s5 at*
 clear HB1 w1 S34
 have hsS:s5<wS.heap.size:=lt_of_blk HLS.out
 have HMS:Hid (RowsM wS base (.slice (some ⟨gv,0,none⟩) sh cv) gs (matT sw sh T)):=Lib.hid (HM.out.below HBS.out (Nat.le_refl _))
 have A1:Hid (∀wr,Below wS.heap.size wS wr→wr.heap[s5]? =some (syO j)∧∀y,y<sh→∃g cap,wr.cell? ⟨gv,y,none⟩=some (.slice (some ⟨g,0,none⟩) sw cap)∧∀x,x<sw→wr.cell? ⟨g,x,none⟩=some (.int .u8 ((bitN (T y x==1):Nat):Int))):=
  Lib.hid (fun wr hb=>⟨(hb.block _ hsS).trans HLS.out,fun y hy=>(HMS.out.below hb (Nat.le_refl _)).at rfl hy⟩)
 clear c00 n0 hsi
 unfold syV at E35 W36 H22
 go_loopw [39] (fun i wr=>∃y:Nat,y≤sh∧i= .int .i64 y∧Hid (Below wS.heap.size wS wr)) (fun i _=>sh-(intOf i).toNat)
 case atStart=>exact⟨0,by omega,rfl,Lib.hid (Below.refl _ _)⟩
 case round=>
  obtain⟨y,hy,rfl,hb⟩:=hrel
  obtain⟨hblk,hrow⟩:=A1.out _ hb.out
  obtain⟨l0,l1,l2,l3,l4,l5,l6⟩:=cells7 hblk
  have HBK:=Lib.hid hblk
  have HRW:=Lib.hid hrow
  clear hblk hrow
  by_cases hlt:y<sh
  ·obtain⟨g,cap,hc,hr⟩:=HRW.out y hlt
   have HR:=Lib.hid hr
   clear hr
   have hyi:(y:Int)<(sh:Int):=by omega
   rw[←HSW.out]at l1
   go_wp2
   go_quiet (fail)
   go_wp2
   have HB2:=Lib.hid (below_dr hb.out nq)
   clear l0 l1 l2 l3 l4 l5 l6 hc HR HBK HRW
   generalize wr.drewN nq=wd at HB2 ⊢
   obtain⟨hblk,hrow⟩:=A1.out _ HB2.out
   obtain⟨g,cap,hc,hr⟩:=hrow y hlt
   clear hblk hrow hr
   go_wp2
   go_loopw [56] (fun i wr=>∃x:Nat,x≤sw∧i= .int .i64 x∧Hid (Below wS.heap.size wS wr)) (fun i _=>sw-(intOf i).toNat)
   case atStart=>exact⟨0,by omega,rfl,HB2⟩
   case round=>
    obtain⟨x,hx,rfl,hb3⟩:=hrel
    clear hc
    by_cases hxl:x<sw
    ·have hxi:(x:Int)<(sw:Int):=by omega
     obtain⟨hblk,-⟩:=A1.out _ hb3.out
     obtain⟨l0,l1,l2,l3,l4,l5,l6⟩:=cells7 hblk
     clear hblk
     have hE:=fun w=>E35.out y x (by omega) (by omega) w
     have hT:=KE.out y x (by rw[←HSH.out];exact hlt) (by rw[←HSW.out];exact hxl)
     rcases hei:edgeIs (hN j) (wN j) y x with _|_
     ·rw[hei]at hE
      have HE:=Lib.hid hE
      clear hE hT hei
      generalize edgeV (hN j) (wN j) y x=ev at HE
      go_wp2_with (first|(go_at_call 35;refine(HE.out _).mono ?_;rintro e w3 ⟨rfl,hb4⟩;have HB4:=Lib.hid (hb3.out.trans (hb4.mono hb3.out.size));clear hb4))
      exact⟨⟨x+1,by omega,by go_num,HB4⟩,by simp[intOf];omega⟩
     ·rw[hei]at hE
      have hT:=hT hei
      have A2:Hid (∀wr,Below wS.heap.size wS wr→∃g cap,wr.cell? ⟨gv,y,none⟩=some (.slice (some ⟨g,0,none⟩) sw cap)∧wr.cell? ⟨g,x,none⟩=some (.int .u8 ((edgeV (hN j) (wN j) y x:Nat):Int))):=Lib.hid (fun wr hb=>by
       obtain⟨g,cap,hc,hr⟩:=(A1.out wr hb).2 y hlt
       exact⟨g,cap,hc,by rw[hr x hxl,hT]⟩)
      have HE:=Lib.hid hE
      clear hE hT hei
      generalize edgeV (hN j) (wN j) y x=ev at HE A2
      go_wp2_with (first|(go_at_call 35;refine(HE.out _).mono ?_;rintro e w3 ⟨rfl,hb4⟩;have HB4:=Lib.hid (hb3.out.trans (hb4.mono hb3.out.size));clear hb4;obtain⟨g9,cap9,hc9,hr9⟩:=A2.out _ HB4.out))
      exact⟨⟨x+1,by omega,by go_num,HB4⟩,by simp[intOf];omega⟩
    ·have hxi:¬(x:Int)<(sw:Int):=by omega
     go_wp2
     exact⟨⟨y+1,by omega,by go_num,hb3⟩,by simp[intOf];omega⟩
  ·have hyi:¬(y:Int)<(sh:Int):=by omega
   have hzr:s5<wr.heap.size:=Nat.lt_of_lt_of_le hsS hb.out.size
   have hne:¬s5=wr.heap.size:=by omega
   have hout:=KK.out.len
   have h45:syN j 4+syN j 5≤10000:=(by decide+kernel:∀j,j<29→syN j 4+syN j 5≤10000) j hj
   have mk:=make28 ((syN j 4:Int)+(syN j 5:Int)) (by omega) (by omega) wr
   rw[show ((syN j 4:Int)+(syN j 5:Int)).toNat=out.length by omega]at mk
   have HOL:=Lib.hid hout
   clear hout
   go_wp2_with (first|(go_at_call 22;refine(H22.out _).mono ?_;rintro e w3 ⟨bb,rfl,hr3,hb3,hbb⟩;have HR3:=Lib.hid hr3;have HB3:=Lib.hid hb3;clear hr3 hb3))
   have HB0:=Lib.hid (HBS.out.trans (hb.out.mono HBS.out.size))
   have HBA:=Lib.hid (HB0.out.alloc HB0.out.size (.cells (irow .i64 (zs out.length)) 3))
   have HBW:=Lib.hid (HBA.out.trans (HB3.out.mono HBA.out.size))
   have HWS:Hid (Row w3 wr.heap.size .i64 3 (nl (wordsT P (fun n=>wantN out (P.getD n 0)) out.length 0))):=Lib.hid (by
    have h0:=(Row.new wr .i64 3 (zs out.length)).below HB3.out (by simp)
    have e:nl (wordsT P (fun n=>wantN out (P.getD n 0)) out.length 0)=zs out.length:=by simp[nl,wordsT,zs]
    rw[e];exact h0)
   have HS5:Hid (w3.heap[s5]? =some (syO j)):=Lib.hid ((HB3.out.block s5 (by simp;omega)).trans ((Below.heap_alloc wr _ _ hzr).trans HBK.out))
   have HZ3:Hid (w3.heap[w.heap.size]? =some (.cells #[.int .i64 0,.int .i64 0,.int .i64 0,.int .i64 0,.int .i64 0,.int .i64 0,.int .i64 0] 30)):=Lib.hid ((HB3.out.block _ (by simp;omega)).trans ((Below.heap_alloc wr _ _ (by omega)).trans ((hb.out.block _ (by omega)).trans HZS.out)))
   generalize hWB:wr.heap.size=WB at*
   have hbb2:WB+1≤bb:=by simpa[hWB]using hbb
   clear hbb mk l0 l1 l2 l3 l4 l5 l6 HBK HRW HB3 HBA HB0 H22 A1 hb KE HLS HZS HMS HBS
   have HR:=Lib.hid (show TkR j WB bb s5 P out w 0 w3 from⟨HWS.out,HR3.out,HS5.out,HZ3.out,HBW.out⟩)
   clear HWS HR3 HS5 HZ3 HBW hWB hyi hlt hy hne
   obtain⟨p1,p2,p3,p4⟩:=reg2_ok j hj
   rw[←HRO.out]at p3
   rw[←HCO.out]at p4
   clear p1 p2 hsS
   go_loopw [94] (fun i wr=>∃r:Nat,r≤rows∧i= .int .i64 r∧Hid (TkR j WB bb s5 P out w (r*cols) wr)) (fun i _=>rows-(intOf i).toNat)
   case atStart=>exact⟨0,by omega,rfl,by rw[Nat.zero_mul];exact HR⟩
   case round=>
    obtain⟨r,hr,rfl,HT⟩:=hrel
    clear HR
    by_cases hlt:r<rows
    ·have hri:(r:Int)<(rows:Int):=by omega
     have hq1:r*cols≤199*cols:=Nat.mul_le_mul_right _ (by omega)
     obtain⟨q,hq⟩:∃q,q=r*cols:=⟨_,rfl⟩
     rw[←hq]at HT hq1
     have hqi:(r:Int)*(cols:Int)=(q:Int):=by rw[hq];simp
     have hqs:q+cols=(r+1)*cols:=by rw[hq,Nat.add_mul,Nat.one_mul]
     have hqm:(r+1)*cols≤rows*cols:=Nat.mul_le_mul_right _ (by omega)
     have hq2:q≤40000:=by omega
     have HQ:=Lib.hid (And.intro hqs (And.intro hqm hq))
     clear hqs hqm hq
     go_wp2
     go_loopw [98] (fun i wr=>∃c:Nat,c≤cols∧i= .int .i64 c∧Hid (TkR j WB bb s5 P out w (q+c) wr)) (fun i _=>cols-(intOf i).toNat)
     case atStart=>exact⟨0,by omega,rfl,HT⟩
     case round=>
      obtain⟨c,hc,rfl,hT⟩:=hrel
      clear HT
      by_cases hcl:c<cols
      ·have hci:(c:Int)<(cols:Int):=by omega
       obtain⟨k1,k2,k3⟩:=KI.out r c (by rw[←HRO.out];exact hlt) (by rw[←HCO.out];exact hcl)
       have hn:q+c<rows*cols:=by have:=HQ.out;omega
       have hni:(q:Int)+(c:Int)<(rows:Int)*(cols:Int):=by rw[←Int.natCast_mul];omega
       have hnl:q+c<P.length:=by rw[KK.out.plen,←HRO.out,←HCO.out];exact hn
       have hlow:=KW.out (q+c) (by rw[←HRO.out,←HCO.out];exact hn)
       rw[←HCO.out,←HQ.out.2.2]at k3
       have W:=fun w=>W36.out r c (by omega) (by omega) w
       generalize whN (hN j-2) r=yy at*
       generalize whN (wN j-2) c=xx at*
       rw[←HSH.out]at k1
       rw[←HSW.out]at k2
       have hy1:(yy:Int)<(sh:Int):=by omega
       have hx1:(xx:Int)<(sw:Int):=by omega
       have WW:=Lib.hid W
       clear W
       have A3:Hid (∀wr,Below w.heap.size w wr→∃g cap,wr.cell? ⟨gv,yy,none⟩=some (.slice (some ⟨g,0,none⟩) sw cap)∧wr.cell? ⟨g,xx,none⟩=some (.int .u8 ((wantN out (P.getD (q+c) 0):Nat):Int))):=Lib.hid (fun wr hb=>by
        obtain⟨g,cap,hc,hr⟩:=(HM.out.below hb (Nat.le_refl _)).at rfl k1
        exact⟨g,cap,hc,by rw[hr xx k2,k3]⟩)
       clear k3
       obtain⟨l0,l1,l2,l3,l4,l5,l6⟩:=cells7 hT.out.2.2.1
       have HPC:=Lib.hid hnl
       obtain⟨z,hz⟩:∃z,z=P.getD (q+c) 0:=⟨_,rfl⟩
       rw[←hz]at hlow A3
       have HZZ:=Lib.hid hz
       clear hz
       rcases hlow with rfl|rfl|⟨h0,h8⟩
       ·have hw1:wantN out (-1)=1:=rfl
        rw[hw1]at A3
        have HSK:=Lib.hid (fun wr (h:TkR j WB bb s5 P out w (q+c) wr)=>h.skip (by rw[←HZZ.out];omega))
        go_wp2_with (first|(go_at_call 36;refine(WW.out _).mono ?_;rintro e w4 ⟨rfl,hb4⟩;have hT4:=Lib.hid (hT.out.below hb4);clear hb4 l0 l1 l2 l3 l4 l5 l6;obtain⟨g9,cap9,hc9,hr9⟩:=A3.out _ hT4.out.2.2.2.2;have hpc:=hT4.out.2.1.cell HPC.out;rw[←HZZ.out]at hpc))
        exact⟨⟨c+1,by omega,by go_num,HSK.out _ hT4.out⟩,by simp[intOf];omega⟩
       ·have hw1:wantN out (-2)=0:=rfl
        rw[hw1]at A3
        have HSK:=Lib.hid (fun wr (h:TkR j WB bb s5 P out w (q+c) wr)=>h.skip (by rw[←HZZ.out];omega))
        go_wp2_with (first|(go_at_call 36;refine(WW.out _).mono ?_;rintro e w4 ⟨rfl,hb4⟩;have hT4:=Lib.hid (hT.out.below hb4);clear hb4 l0 l1 l2 l3 l4 l5 l6;obtain⟨g9,cap9,hc9,hr9⟩:=A3.out _ hT4.out.2.2.2.2;have hpc:=hT4.out.2.1.cell HPC.out;rw[←HZZ.out]at hpc))
        exact⟨⟨c+1,by omega,by go_num,HSK.out _ hT4.out⟩,by simp[intOf];omega⟩
       ·obtain⟨p,rfl⟩:∃p:Nat,z=(p:Int):=⟨z.toNat,by omega⟩
        obtain⟨e,he⟩:∃e,e=p/8:=⟨_,rfl⟩
        obtain⟨f,hf⟩:∃f,f=p%8:=⟨_,rfl⟩
        have t1:(p:Int)/8=(e:Int):=by omega
        have t2:(p:Int)%8=(f:Int):=by omega
        have t3:(p:Int).tdiv 8=(e:Int):=by rw[Int.tdiv_eq_ediv_of_nonneg (by omega)];exact t1
        have t4:(p:Int).tmod 8=(f:Int):=by rw[Int.tmod_eq_emod_of_nonneg (by omega)];exact t2
        have hel:e<out.length:=by omega
        have heli:(e:Int)<(out.length:Int):=by omega
        have hfl:(f:Int)<8:=by omega
        have hpn:¬(p:Int)<0:=by omega
        have HSET:=Lib.hid (fun wr (h:TkR j WB bb s5 P out w (q+c) wr)=>h.set HZZ.out.symm hs5 hzr (by omega))
        rw[←he,←hf]at HSET
        have hf7:f≤7:=by omega
        clear he hf
        have e1:((7:Int)-(f:Int)).toNat=7-f:=by omega
        have e2:min (7-f) 64=7-f:=by omega
        have e5:IntKind.i64.wrap ((7:Int)-(f:Int))=(7:Int)-(f:Int):=IntWalk.i64_in _ (by omega)
        have e6:¬(7:Int)-(f:Int)<0:=by omega
        have e7:IntKind.i64.wrap (e:Int)=(e:Int):=IntWalk.i64_in _ (by have:=HOL.out;omega)
        go_wp2_with (first|(go_at_call 36;refine(WW.out _).mono ?_;rintro e w4 ⟨rfl,hb4⟩;have hT4:=Lib.hid (hT.out.below hb4);clear hb4 l0 l1 l2 l3 l4 l5 l6;obtain⟨g9,cap9,hc9,hr9⟩:=A3.out _ hT4.out.2.2.2.2;have hpc:=hT4.out.2.1.cell HPC.out;rw[←HZZ.out]at hpc))
        have hwc:=hT4.out.1.cell (i:=e) (by rw[nl,List.length_map,wordsT_len];exact hel)
        have hwf:=hT4.out.1.free e
        rw[show ∀(xs:List Nat) i,(nl xs).getD i 0=((xs.getD i 0:Nat):Int)from fun xs i=>by simp only[nl,List.getD_eq_getElem?_getD,List.getElem?_map];cases xs[i]? <;>rfl]at hwc
        have hx:=wordsT_lt (P:=P) (m:=fun n=>wantN out (P.getD n 0)) (N:=out.length) (fun n=>wantN_le1 _ _) (q+c) e
        have hm:=wantN_le1 out (p:Int)
        generalize (wordsT P (fun n=>wantN out (P.getD n 0)) out.length (q+c)).getD e 0=x at*
        generalize wantN out (p:Int)=m at*
        have hv:=shl_lt (k:=7-f) hm (by omega)
        have e3:(m:Int)*2^(7-f)=((m <<< (7-f):Nat):Int):=by rw[Nat.shiftLeft_eq];simp
        generalize m <<< (7-f)=v at*
        have e4:=or64 x v (by omega) (by omega)
        have hv2:IntKind.i64.wrap (v:Int)=(v:Int):=IntWalk.i64_in _ (by omega)
        have hm2:IntKind.i64.wrap (m:Int)=(m:Int):=IntWalk.i64_in _ (by omega)
        clear hx hm hv
        go_still_tail 19,(by kernel_rfl)
        have HTD:=Lib.hid (HSET.out w4.drew (hT4.out.below (below_dr (Below.refl _ _) 1)))
        go_wp2
        exact⟨⟨c+1,by omega,by go_num,HTD⟩,by simp[intOf];omega⟩
      ·have hci:¬(c:Int)<(cols:Int):=by omega
       have e:c=cols:=by omega
       have HT2:Hid (TkR j WB bb s5 P out w ((r+1)*cols) wr):=Lib.hid (by rw[←HQ.out.1,←e];exact hT.out)
       clear e
       go_wp2
       exact⟨⟨r+1,by omega,by go_num,HT2⟩,by simp[intOf];omega⟩
    ·have hri:¬(r:Int)<(rows:Int):=by omega
     have e:r=rows:=by omega
     have HF:Hid (TkR j WB bb s5 P out w (rows*cols) wr):=Lib.hid (by rw[←e];exact HT.out)
     have HTA:Hid (wordsT P (fun n=>wantN out (P.getD n 0)) out.length (rows*cols)=out):=Lib.hid (wordsT_all KK.out.sm (fun n hn h=>rfl) (fun n hn h=>by
      have:=KW.out n (by rw[←HRO.out,←HCO.out];exact hn)
      omega) (fun z hz=>by
      have:=KK.out.sur z hz
      rw[←HRO.out,←HCO.out]at this;exact this))
     have HSY:Hid (syV j= .agg #[.int .i64 (syN j 0),.int .i64 (syN j 1),.int .i64 (syN j 2),.int .i64 (syN j 3),.int .i64 (syN j 4),.int .i64 (syN j 5),.int .i64 (syN j 6)]):=Lib.hid rfl
     clear e HT
     obtain⟨l0,l1,l2,l3,l4,l5,l6⟩:=cells7 HF.out.2.2.1
     obtain⟨m0,m1,m2,m3,m4,m5,m6⟩:=cells7 HF.out.2.2.2.1
     obtain⟨f0,f1,f2,f3,f4,f5,f6⟩:=free7 HF.out.2.2.2.1
     have hns:¬s5=w.heap.size:=by omega
     have hns2:¬w.heap.size=s5:=by omega
     go_wp2
     go_region
     clear l0 l1 l2 l3 l4 l5 l6 m0 m1 m2 m3 m4 m5 m6 f0 f1 f2 f3 f4 f5 f6
     have hi:Ints wr WB out:=Ints.of_row (T:=3) (by have h:=HF.out.1;rw[HTA.out]at h;exact h)
     have hWA:WB≠w.heap.size:=by omega
     have hst:=set7 (o:=none) (w:=wr) (b:=w.heap.size) HF.out.2.2.2.1 (.int .i64 (syN j 0)) (.int .i64 (syN j 1)) (.int .i64 (syN j 2)) (.int .i64 (syN j 3)) (.int .i64 (syN j 4)) (.int .i64 (syN j 5)) (.int .i64 (syN j 6))
     have hbl:=below7 (B:=w.heap.size) HF.out.2.2.2.2 (.int .i64 (syN j 0)) (.int .i64 (syN j 1)) (.int .i64 (syN j 2)) (.int .i64 (syN j 3)) (.int .i64 (syN j 4)) (.int .i64 (syN j 5)) (.int .i64 (syN j 6))
     have hin:=(((((((hi.set_ne (a:=⟨w.heap.size,0,none⟩) hWA (.int .i64 (syN j 0))).set_ne (a:=⟨w.heap.size,1,none⟩) hWA (.int .i64 (syN j 1))).set_ne (a:=⟨w.heap.size,2,none⟩) hWA (.int .i64 (syN j 2))).set_ne (a:=⟨w.heap.size,3,none⟩) hWA (.int .i64 (syN j 3))).set_ne (a:=⟨w.heap.size,4,none⟩) hWA (.int .i64 (syN j 4))).set_ne (a:=⟨w.heap.size,5,none⟩) hWA (.int .i64 (syN j 5))).set_ne (a:=⟨w.heap.size,6,none⟩) hWA (.int .i64 (syN j 6)))
     have HX:=Lib.hid (And.intro hst (And.intro hbl hin))
     clear hst hbl hin hi
     generalize (((((((wr.setCell ⟨w.heap.size,0,none⟩ (.int .i64 (syN j 0))).setCell ⟨w.heap.size,1,none⟩ (.int .i64 (syN j 1))).setCell ⟨w.heap.size,2,none⟩ (.int .i64 (syN j 2))).setCell ⟨w.heap.size,3,none⟩ (.int .i64 (syN j 3))).setCell ⟨w.heap.size,4,none⟩ (.int .i64 (syN j 4))).setCell ⟨w.heap.size,5,none⟩ (.int .i64 (syN j 5))).setCell ⟨w.heap.size,6,none⟩ (.int .i64 (syN j 6)))=w9 at*
     go_wp2
     obtain⟨l0,l1,l2,l3,l4,l5,l6⟩:=cells7 HX.out.1
     refine bodyPost_ret (v:= .tuple #[.slice (some ⟨WB,0,none⟩) out.length out.length,syV j,.bool true]) ?_ rfl ⟨WB,rfl,HX.out.2.2.drew,below_dr HX.out.2.1 1⟩
     simp[results,Tryz.results12,go_sem,syV,l0,l1,l2,l3,l4,l5,l6]
end Go.Proofs.YtcnallabiffemaaGreatDoor
