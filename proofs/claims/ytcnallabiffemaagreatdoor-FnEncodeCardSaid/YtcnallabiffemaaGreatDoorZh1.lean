/- Bytes as numbers, numbers as bytes, and the comparison of numbers. -/
import Derived.Test.YtcnallabiffemaaGreatDoorZg14
import Derived.Outline
import Derived.StillTailTactics
set_option linter.unusedVariables false
set_option linter.unusedSimpArgs false
namespace Go.Proofs.YtcnallabiffemaaGreatDoor
section
open Go.RowKit
set_option maxHeartbeats 1000000 in
theorem shaped_calls (r c d a n e b sh:Nat) (hs:sh<3) (w:World):
 Calls Tryz.prog 13 #[.agg #[.int .i64 r,.int .i64 c,.int .i64 d,.int .i64 a,.int .i64 n,.int .i64 e,.int .i64 b],.int .i64 sh] w fun en w'=>en= .returned (.bool (shapedB r c sh))∧Below w.heap.size w w':=by
 by_cases hrc:r=c
 ·subst hrc
  rcases(by omega:sh=0∨sh=1∨sh=2)with rfl|rfl|rfl
  all_goals
   go_enter Tryz.func13,Tryz.ntmps13
   go_wp2
   go_ret
   exact⟨by simp[shapedB],(Below.refl _ _).alloc (Nat.le_refl _) _⟩
 ·have h1:((r:Int)==(c:Int))=false:=by rw[beq_eq_false_iff_ne];omega
  rcases(by omega:sh=0∨sh=1∨sh=2)with rfl|rfl|rfl
  all_goals
   go_enter Tryz.func13,Tryz.ntmps13
   go_wp2
   go_ret
   exact⟨by simp[shapedB,hrc],(Below.refl _ _).alloc (Nat.le_refl _) _⟩
def SymForPost (o:Option Nat) (w:World) (e:Ending) (w':World):Prop:=
 (match o with
   |some i=>e= .returned (.tuple #[.int .i64 (shOf i),.int .i64 (swOf i),.bool true])
   |none=>e= .returned (.tuple #[.int .i64 0,.int .i64 0,.bool false]))∧Below w.heap.size w w'
theorem lookSym_lt {d:Int} {sh i:Nat} (h:lookSym d sh=some i):i<30:=by
 have:=List.mem_of_find?_eq_some h
 simpa using this
theorem lookN_calls {data:Int} {shape:Nat} (hs:shape<3) (hl:lookSym data shape=none) (w:World):
 Calls Tryz.prog 42 #[.int .i64 data,.int .i64 shape,.pointer none,.pointer none,.bool true] w fun e w'=>
  ∃T v,e= .returned (.tuple #[.pointer none,.iface T v])∧Below w.heap.size w w':=by
 refine(lookup_calls data shape hs w).mono ?_
 rintro e w' ⟨hb,hp⟩
 rw[hl]at hp
 rcases hp with⟨j,b,hj,_⟩|⟨_,T,v,he⟩
 ·cases hj
 ·exact⟨T,v,he,hb⟩
set_option maxRecDepth 100000 in
set_option maxHeartbeats 1000000 in
theorem symFor_calls (d:Int) (sh:Nat) (hs:sh<3) (w:World):Calls Tryz.prog 18 #[.int .i64 d,.int .i64 sh] w (SymForPost (lookSym d sh) w):=by
 cases hl:lookSym d sh with
 |some i=>
  have hi:=lookSym_lt hl
  have HL:=Lib.hid hl
  clear hl
  go_enter Tryz.func18,Tryz.ntmps18
  go_wp2_with (first|(go_at_call 27;refine(shapesOk_calls hs _).mono ?_;rintro e w1 ⟨rfl,hb⟩;have HB:=Lib.hid hb;clear hb)|(go_at_call 42;refine(lookI_calls hs HL.out _).mono ?_;rintro e w2 ⟨b,rfl,hbl,hsi,hb2⟩;have HSI:=Lib.hid hsi;have HB2:=Lib.hid hb2;clear hbl hsi hb2)|(go_at_call 43;refine(sh_calls b i _ hi HSI.out).mono ?_;rintro e w3 ⟨rfl,n3,rfl⟩)|(go_at_call 44;refine(sw_calls b i _ hi (blk_drewN HSI.out)).mono ?_;rintro e w4 ⟨rfl,n4,rfl⟩))
  go_ret3
  exact⟨rfl,below_dr (HB.out.trans (HB2.out.mono HB.out.size)) _⟩
 |none=>
  have HL:=Lib.hid hl
  clear hl
  go_enter Tryz.func18,Tryz.ntmps18
  go_wp2_with (first|(go_at_call 27;refine(shapesOk_calls hs _).mono ?_;rintro e w1 ⟨rfl,hb⟩;have HB:=Lib.hid hb;clear hb)|(go_at_call 42;refine(lookN_calls hs HL.out _).mono ?_;rintro e w2 ⟨T,v,rfl,hb2⟩;have HB2:=Lib.hid hb2;clear hb2))
  go_ret3
  exact⟨rfl,HB.out.trans (HB2.out.mono HB.out.size)⟩
def bestTo (d sh:Nat):Nat→Option Nat
 |0=>none
 |k+1=>
  if decide (d≤syN k 4)&&shapedB (syN k 0) (syN k 1) sh&&(match bestTo d sh k with|none=>true|some j=>decide (syN k 4<syN j 4))then some k else bestTo d sh k
theorem best_look:∀sh,sh<3→∀d,d<1304→(lookSym ((d+1:Nat):Int) sh).map (fun i=>(shOf i,swOf i))=(bestTo (d+1) sh 29).map (fun j=>((syN j 0:Int),(syN j 1:Int))):=by decide+kernel
end
section
open Go.RowKit
def TruePost (w:World) (e:Ending) (w':World):Prop:=e= .returned (.bool true)∧Below w.heap.size w w'
theorem fnSym_out (d s:Int) (h:d<1∨1304<d∨s<0∨2<s) (w:World):Calls Tryz.prog 4 #[.int .i64 d,.int .i64 s] w (TruePost w):=by
 by_cases h1:d<1
 ·go_enter Tryz.func4,Tryz.ntmps4
  go_wp2_with (go_at_call 9;refine(works_calls _).mono ?_;rintro e w1 ⟨rfl,hb⟩)
  go_ret
  exact⟨rfl,hb⟩
 ·by_cases h2:1304<d
  ·go_enter Tryz.func4,Tryz.ntmps4
   go_wp2_with (go_at_call 9;refine(works_calls _).mono ?_;rintro e w1 ⟨rfl,hb⟩)
   go_ret
   exact⟨rfl,hb⟩
  ·by_cases h3:s<0
   ·go_enter Tryz.func4,Tryz.ntmps4
    go_wp2_with (go_at_call 9;refine(works_calls _).mono ?_;rintro e w1 ⟨rfl,hb⟩)
    go_ret
    exact⟨rfl,hb⟩
   ·have h4:2<s:=by omega
    go_enter Tryz.func4,Tryz.ntmps4
    go_wp2_with (go_at_call 9;refine(works_calls _).mono ?_;rintro e w1 ⟨rfl,hb⟩)
    go_ret
    exact⟨rfl,hb⟩
def bestN (o:Option Nat) (k:Nat):Nat:=match o with|none=>0|some j=>syN j k
def bestV (o:Option Nat):Array Value:= #[.int .i64 (bestN o 0),.int .i64 (bestN o 1),.int .i64 (bestN o 2),.int .i64 (bestN o 3),.int .i64 (bestN o 4),.int .i64 (bestN o 5),.int .i64 (bestN o 6)]
theorem keep7 {w wr w3:World} {o:Obj} {V:Array Value} {xs:List Int} (hb3:Below (wr.alloc o).heap.size (wr.alloc o) w3) (h5:wr.heap[w.heap.size]? =some (.cells V 30)) (hr:Row wr (w.heap.size+1) .i64 30 xs) (hbw:Below w.heap.size w wr):
 w3.heap[w.heap.size]? =some (.cells V 30)∧Row w3 (w.heap.size+1) .i64 30 xs∧Below w.heap.size w w3∧w3.heap[wr.heap.size]? =some o:=by
 have hl:=lt_of_blk h5
 have hl2:=hr.lt
 refine⟨?_,(hr.alloc o).below hb3 (by simp;omega),(hbw.alloc (by omega) o).trans (hb3.mono (by simp;omega)),(hb3.block _ (by simp)).trans (new_last rfl _)⟩
 exact(hb3.block _ (by simp;omega)).trans ((Below.heap_alloc _ _ _ hl).trans h5)
theorem cells7 {w:World} {b:Nat} {x0 x1 x2 x3 x4 x5 x6:Value} (h:w.heap[b]? =some (.cells #[x0,x1,x2,x3,x4,x5,x6] 30)):
 w.cell? ⟨b,0,none⟩=some x0∧w.cell? ⟨b,1,none⟩=some x1∧w.cell? ⟨b,2,none⟩=some x2∧w.cell? ⟨b,3,none⟩=some x3∧w.cell? ⟨b,4,none⟩=some x4∧w.cell? ⟨b,5,none⟩=some x5∧w.cell? ⟨b,6,none⟩=some x6:=by
 refine⟨?_,?_,?_,?_,?_,?_,?_⟩<;>(rw[cell_blk h];rfl)
theorem set7 {w:World} {b:Nat} {o:Option Nat} (h:w.heap[b]? =some (.cells (bestV o) 30)) (x0 x1 x2 x3 x4 x5 x6:Value):
 (((((((w.setCell ⟨b,0,none⟩ x0).setCell ⟨b,1,none⟩ x1).setCell ⟨b,2,none⟩ x2).setCell ⟨b,3,none⟩ x3).setCell ⟨b,4,none⟩ x4).setCell ⟨b,5,none⟩ x5).setCell ⟨b,6,none⟩ x6).heap[b]? =some (.cells #[x0,x1,x2,x3,x4,x5,x6] 30):=by
 rw[heap_setCell_at (heap_setCell_at (heap_setCell_at (heap_setCell_at (heap_setCell_at (heap_setCell_at (heap_setCell_at h 0 x0) 1 x1) 2 x2) 3 x3) 4 x4) 5 x5) 6 x6];simp[bestV]
theorem row7 {w:World} {b c:Nat} {xs:List Int} (h:Row w c .i64 30 xs) (hc:c≠b) (x0 x1 x2 x3 x4 x5 x6:Value):
 Row (((((((w.setCell ⟨b,0,none⟩ x0).setCell ⟨b,1,none⟩ x1).setCell ⟨b,2,none⟩ x2).setCell ⟨b,3,none⟩ x3).setCell ⟨b,4,none⟩ x4).setCell ⟨b,5,none⟩ x5).setCell ⟨b,6,none⟩ x6) c .i64 30 xs:=
 ((((((h.set_ne hc x0).set_ne hc x1).set_ne hc x2).set_ne hc x3).set_ne hc x4).set_ne hc x5).set_ne hc x6
theorem below7 {w0 w:World} {B:Nat} (h:Below B w0 w) (x0 x1 x2 x3 x4 x5 x6:Value):
 Below B w0 (((((((w.setCell ⟨B,0,none⟩ x0).setCell ⟨B,1,none⟩ x1).setCell ⟨B,2,none⟩ x2).setCell ⟨B,3,none⟩ x3).setCell ⟨B,4,none⟩ x4).setCell ⟨B,5,none⟩ x5).setCell ⟨B,6,none⟩ x6):=
 ((((((h.setCell (Nat.le_refl _) x0).setCell (Nat.le_refl _) x1).setCell (Nat.le_refl _) x2).setCell (Nat.le_refl _) x3).setCell (Nat.le_refl _) x4).setCell (Nat.le_refl _) x5).setCell (Nat.le_refl _) x6
theorem free7 {w:World} {b:Nat} {V:Array Value} (h:w.heap[b]? =some (.cells V 30)):
 w.frozen? ⟨b,0,none⟩=false∧w.frozen? ⟨b,1,none⟩=false∧w.frozen? ⟨b,2,none⟩=false∧w.frozen? ⟨b,3,none⟩=false∧w.frozen? ⟨b,4,none⟩=false∧w.frozen? ⟨b,5,none⟩=false∧w.frozen? ⟨b,6,none⟩=false:=by
 refine⟨?_,?_,?_,?_,?_,?_,?_⟩<;>exact frozen_blk h _
set_option maxRecDepth 100000 in
set_option maxHeartbeats 4000000 in
theorem fnSym_in (d sh:Nat) (h1:1≤d) (h2:d≤1304) (hs:sh<3) (w:World):Calls Tryz.prog 4 #[.int .i64 d,.int .i64 sh] w (TruePost w):=by
 have g1:¬(d:Int)<1:=by omega
 have g2:¬(1304:Int)<(d:Int):=by omega
 have g3:¬(sh:Int)<0:=by omega
 have g4:¬(2:Int)<(sh:Int):=by omega
 go_enter Tryz.func4,Tryz.ntmps4
 go_wp2_with (go_at_call 17;refine(spSyms_calls _).mono ?_;rintro e w1 ⟨rfl,hr,hb,hz⟩)
 clear g1 g2 g3 g4
 have hb5:w1.heap[w.heap.size]? =some (.cells (bestV (bestTo d sh 0)) 30):=(hb.block _ (by simp)).trans (new_last rfl _)
 have hbw:Below w.heap.size w w1:=((Below.refl _ _).alloc (Nat.le_refl _) _).trans (hb.mono (by simp))
 have HR:=Lib.hid hr
 have H5:=Lib.hid hb5
 have HBW:=Lib.hid hbw
 clear hr hb5 hbw hb hz
 go_loopw [30,6] (fun i f wr=>∃k:Nat,k≤29∧i= .int .i64 k∧f= .bool (bestTo d sh k).isSome∧Hid (wr.heap[w.heap.size]? =some (.cells (bestV (bestTo d sh k)) 30))∧Hid (Row wr (w.heap.size+1) .i64 30 syInts)∧Hid (Below w.heap.size w wr)) (fun i _ _=>29-(intOf i).toNat)
 case atStart=>exact⟨0,by omega,rfl,rfl,H5.out,by simpa[Lib.hid]using HR,HBW.out⟩
 case round=>
  obtain⟨k,hk,rfl,rfl,h5,hr,hbw⟩:=hrel
  by_cases hlt:k<29
  ·have c0:wr.cell? ⟨w.heap.size+1,k*7,none⟩=some (.int .i64 (syN k 0)):=sy_cell hr.out hlt 0 (by omega)
   have c1:=sy_cell hr.out hlt 1 (by omega)
   have c2:=sy_cell hr.out hlt 2 (by omega)
   have c3:=sy_cell hr.out hlt 3 (by omega)
   have c4:=sy_cell hr.out hlt 4 (by omega)
   have c5:=sy_cell hr.out hlt 5 (by omega)
   have c6:=sy_cell hr.out hlt 6 (by omega)
   by_cases hd:d≤syN k 4
   ·have hdi:(d:Int)≤(syN k 4:Int):=by omega
    cases hsb:shapedB (syN k 0) (syN k 1) sh with
    |false=>
     have hn:bestTo d sh (k+1)=bestTo d sh k:=by simp[bestTo,hsb]
     have HN:=Lib.hid hn
     have g13:∀wx,Calls Tryz.prog 13 #[.agg #[.int .i64 (syN k 0),.int .i64 (syN k 1),.int .i64 (syN k 2),.int .i64 (syN k 3),.int .i64 (syN k 4),.int .i64 (syN k 5),.int .i64 (syN k 6)],.int .i64 sh] wx fun en w'=>en= .returned (.bool false)∧Below wx.heap.size wx w':=fun wx=>hsb▸shaped_calls _ _ _ _ _ _ _ sh hs wx
     have G:=Lib.hid g13
     have HSB:=Lib.hid hsb
     clear hn g13 hsb
     go_wp2_with (go_at_call 13;refine(G.out _).mono ?_;rintro e w3 ⟨rfl,hb3⟩;have HB3:=Lib.hid (keep7 hb3 h5.out hr.out hbw.out);clear hb3)
     exact⟨⟨k+1,by omega,by go_num,by rw[HN.out],by rw[HN.out];exact HB3.out.1,HB3.out.2.1,HB3.out.2.2.1⟩,by simp[intOf];omega⟩
    |true=>
     cases hbo:bestTo d sh k with
     |none=>
      have hn:bestTo d sh (k+1)=some k:=by simp[bestTo,hd,hsb,hbo]
      have HN:=Lib.hid hn
      have g13:∀wx,Calls Tryz.prog 13 #[.agg #[.int .i64 (syN k 0),.int .i64 (syN k 1),.int .i64 (syN k 2),.int .i64 (syN k 3),.int .i64 (syN k 4),.int .i64 (syN k 5),.int .i64 (syN k 6)],.int .i64 sh] wx fun en w'=>en= .returned (.bool true)∧Below wx.heap.size wx w':=fun wx=>hsb▸shaped_calls _ _ _ _ _ _ _ sh hs wx
      have G:=Lib.hid g13
      rw[hbo]at h5
      have HSB:=Lib.hid hsb
      clear hn g13 hsb hbo
      go_wp2_with (go_at_call 13;refine(G.out _).mono ?_;rintro e w3 ⟨rfl,hb3⟩;have HB3:=Lib.hid (keep7 hb3 h5.out hr.out hbw.out);clear hb3;obtain⟨e0,e1,e2,e3,e4,e5,e6⟩:=cells7 HB3.out.2.2.2;obtain⟨l0,l1,l2,l3,l4,l5,l6⟩:=cells7 HB3.out.1;obtain⟨f0,f1,f2,f3,f4,f5,f6⟩:=free7 HB3.out.1)
      exact⟨⟨k+1,by omega,by go_num,by rw[HN.out];rfl,by rw[HN.out];exact set7 HB3.out.1 _ _ _ _ _ _ _,row7 HB3.out.2.1 (by omega) _ _ _ _ _ _ _,below7 HB3.out.2.2.1 _ _ _ _ _ _ _⟩,by simp[intOf];omega⟩
     |some j=>
      by_cases hlj:syN k 4<syN j 4
      ·have hn:bestTo d sh (k+1)=some k:=by simp[bestTo,hd,hsb,hbo,hlj]
       have HN:=Lib.hid hn
       have hli:(syN k 4:Int)<(syN j 4:Int):=by omega
       have g13:∀wx,Calls Tryz.prog 13 #[.agg #[.int .i64 (syN k 0),.int .i64 (syN k 1),.int .i64 (syN k 2),.int .i64 (syN k 3),.int .i64 (syN k 4),.int .i64 (syN k 5),.int .i64 (syN k 6)],.int .i64 sh] wx fun en w'=>en= .returned (.bool true)∧Below wx.heap.size wx w':=fun wx=>hsb▸shaped_calls _ _ _ _ _ _ _ sh hs wx
       have G:=Lib.hid g13
       rw[hbo]at h5
       have HSB:=Lib.hid hsb
       have HBO:=Lib.hid hbo
       clear hn g13 hsb hbo
       go_wp2_with (go_at_call 13;refine(G.out _).mono ?_;rintro e w3 ⟨rfl,hb3⟩;have HB3:=Lib.hid (keep7 hb3 h5.out hr.out hbw.out);clear hb3;obtain⟨e0,e1,e2,e3,e4,e5,e6⟩:=cells7 HB3.out.2.2.2;obtain⟨l0,l1,l2,l3,l4,l5,l6⟩:=cells7 HB3.out.1;obtain⟨f0,f1,f2,f3,f4,f5,f6⟩:=free7 HB3.out.1)
       exact⟨⟨k+1,by omega,by go_num,by rw[HN.out];rfl,by rw[HN.out];exact set7 HB3.out.1 _ _ _ _ _ _ _,row7 HB3.out.2.1 (by omega) _ _ _ _ _ _ _,below7 HB3.out.2.2.1 _ _ _ _ _ _ _⟩,by simp[intOf];omega⟩
      ·have hn:bestTo d sh (k+1)=some j:=by simp[bestTo,hsb,hbo,hlj]
       have HN:=Lib.hid hn
       have hli:¬(syN k 4:Int)<(syN j 4:Int):=by omega
       have g13:∀wx,Calls Tryz.prog 13 #[.agg #[.int .i64 (syN k 0),.int .i64 (syN k 1),.int .i64 (syN k 2),.int .i64 (syN k 3),.int .i64 (syN k 4),.int .i64 (syN k 5),.int .i64 (syN k 6)],.int .i64 sh] wx fun en w'=>en= .returned (.bool true)∧Below wx.heap.size wx w':=fun wx=>hsb▸shaped_calls _ _ _ _ _ _ _ sh hs wx
       have G:=Lib.hid g13
       rw[hbo]at h5
       have HSB:=Lib.hid hsb
       have HBO:=Lib.hid hbo
       clear hn g13 hsb hbo
       go_wp2_with (go_at_call 13;refine(G.out _).mono ?_;rintro e w3 ⟨rfl,hb3⟩;have HB3:=Lib.hid (keep7 hb3 h5.out hr.out hbw.out);clear hb3;obtain⟨e0,e1,e2,e3,e4,e5,e6⟩:=cells7 HB3.out.2.2.2;obtain⟨l0,l1,l2,l3,l4,l5,l6⟩:=cells7 HB3.out.1;obtain⟨f0,f1,f2,f3,f4,f5,f6⟩:=free7 HB3.out.1)
       exact⟨⟨k+1,by omega,by go_num,by rw[HN.out];rfl,by rw[HN.out];exact HB3.out.1,HB3.out.2.1,HB3.out.2.2.1⟩,by simp[intOf];omega⟩
   ·have hdi:¬(d:Int)≤(syN k 4:Int):=by omega
    have hn:bestTo d sh (k+1)=bestTo d sh k:=by simp[bestTo,hd]
    have HN:=Lib.hid hn
    clear hn
    go_wp2
    exact⟨⟨k+1,by omega,by go_num,by rw[HN.out],by rw[HN.out];exact(Below.heap_alloc _ _ _ (lt_of_blk h5.out)).trans h5.out,hr.out.alloc _,hbw.out.alloc hbw.out.size _⟩,by simp[intOf];omega⟩
  ·obtain rfl:29=k:=by omega
   have hbl:=best_look sh hs (d-1) (by omega)
   rw[show d-1+1=d by omega]at hbl
   obtain⟨l0,l1,l2,l3,l4,l5,l6⟩:=cells7 h5.out
   cases hlk:lookSym (d:Int) sh with
   |some i=>
    cases hbo:bestTo d sh 29 with
    |none=>rw[hlk,hbo]at hbl;cases hbl
    |some j=>
     rw[hlk,hbo]at hbl
     simp only[Option.map_some,Option.some.injEq,Prod.mk.injEq]at hbl
     obtain⟨q0,q1⟩:=hbl
     have g18:∀wx,Calls Tryz.prog 18 #[.int .i64 d,.int .i64 sh] wx fun e w'=>e= .returned (.tuple #[.int .i64 (syN j 0),.int .i64 (syN j 1),.bool true])∧Below wx.heap.size wx w':=fun wx=>by
      have:=symFor_calls d sh hs wx
      rw[hlk]at this
      rw[←q0,←q1];exact this
     have G18:=Lib.hid g18
     rw[hbo]at h5 l0 l1
     have HBW:=hbw
     clear g18 hlk hbo q0 q1 l2 l3 l4 l5 l6
     go_wp2_with (first|(go_at_call 18;refine(G18.out _).mono ?_;rintro e w4 ⟨rfl,hb4⟩;obtain⟨m0,m1,m2,m3,m4,m5,m6⟩:=cells7 ((hb4.block _ (lt_of_blk h5.out)).trans h5.out);have HB4:=Lib.hid hb4;clear hb4)|(go_at_call 9;refine(works_calls _).mono ?_;rintro e w5 ⟨rfl,hb5⟩;have HB5:=Lib.hid hb5;clear hb5))
     go_ret
     have z1:=hbw.out.size
     have z2:=HB4.out.size
     exact⟨rfl,hbw.out.trans ((HB4.out.mono z1).trans (HB5.out.mono (by omega)))⟩
   |none=>
    cases hbo:bestTo d sh 29 with
    |some j=>rw[hlk,hbo]at hbl;cases hbl
    |none=>
     have g18:∀wx,Calls Tryz.prog 18 #[.int .i64 d,.int .i64 sh] wx fun e w'=>e= .returned (.tuple #[.int .i64 0,.int .i64 0,.bool false])∧Below wx.heap.size wx w':=fun wx=>by
      have:=symFor_calls d sh hs wx
      rw[hlk]at this
      exact this
     have G18:=Lib.hid g18
     rw[hbo]at h5 l0 l1
     clear g18 hlk hbo hbl l2 l3 l4 l5 l6
     go_wp2_with (first|(go_at_call 18;refine(G18.out _).mono ?_;rintro e w4 ⟨rfl,hb4⟩;have HB4:=Lib.hid hb4;clear hb4)|(go_at_call 9;refine(works_calls _).mono ?_;rintro e w5 ⟨rfl,hb5⟩;have HB5:=Lib.hid hb5;clear hb5))
     go_ret
     have z1:=hbw.out.size
     have z2:=HB4.out.size
     exact⟨rfl,hbw.out.trans ((HB4.out.mono z1).trans (HB5.out.mono (by omega)))⟩
end
section
open Go.RowKit
def Ints (w:World) (b:Nat) (xs:List Nat):Prop:=b<w.heap.size∧∀i,i<xs.length→w.cell? ⟨b,i,none⟩=some (.int .i64 ((xs.getD i 0:Nat):Int))
section
variable {w w':World} {b:Nat} {xs:List Nat}
theorem Ints.below {B:Nat} (h:Ints w b xs) (hb:Below B w w') (hB:b<B):Ints w' b xs:=
 ⟨Nat.lt_of_lt_of_le h.1 hb.size,fun i hi=>(hb.cell (p:=⟨b,i,none⟩) hB).trans (h.2 i hi)⟩
theorem Ints.of_row {T:TypeId} (h:Row w b .i64 T (nl xs)):Ints w b xs:=
 ⟨h.lt,fun i hi=>by rw[h.cell (by simpa using hi),getD_nl]⟩
theorem Ints.drewN (h:Ints w b xs) (n:Nat):Ints (w.drewN n) b xs:=h
theorem Ints.drew (h:Ints w b xs):Ints w.drew b xs:=h
theorem Ints.alloc (h:Ints w b xs) (o:Obj):Ints (w.alloc o) b xs:=h.below ((Below.refl _ _).alloc (Nat.le_refl _) o) h.1
theorem Ints.set_ne (h:Ints w b xs) {a:Addr} (ha:b≠a.block) (u:Value):Ints (w.setCell a u) b xs:=
 ⟨by have:=h.1;simpa[World.setCell]using this,fun i hi=>(World.cell?_of_block (w:=w) (a:=⟨b,i,none⟩) (Below.heap_setCell _ _ _ _ ha)).trans (h.2 i hi)⟩
theorem Ints.grown {row:Option Nat} (h:Ints w b xs) (hg:w.grownBy w' row) (hne:some b≠row):Ints w' b xs:=by
 refine⟨Nat.lt_of_lt_of_le h.1 hg.size,fun i hi=>?_⟩
 have:=hg.block b h.1 hne
 rw[←h.2 i hi]
 simp only[World.cell?,this]
theorem Ints.one {w:World} {c:Int} {n:Nat} (h:c=(n:Int)):Ints (w.alloc (.cells #[.int .i64 c] 3)) w.heap.size [n]:=by
 subst h
 refine⟨by simp,fun i hi=>?_⟩
 obtain rfl:i=0:=by simpa using hi
 rw[cell_blk (new_last rfl _)];rfl
end
theorem Own.ints {w:World} {base g cap:Nat} {T:TypeId} {xs:List Nat} (h:Own w base .i64 T (.slice (some ⟨g,0,none⟩) xs.length cap) xs):Ints w g xs:=
 ⟨(h.lt g rfl).2,fun i hi=>h.cell hi⟩
theorem app28 {ops:Array Oper} {rest:List Oper} {o:Oper} {a:Act} {Q:Exit→Act→World→Prop} {w:World} (hgd:o.guard=none) (s x:Operand)
 (ho:o.op= .call {callee:= .builtin .append,args:= #[s,x],argTypes:= #[28,28]})
 (base:Nat) (v:Value) (xs:List Nat) (hs:a.eval s=v) (hown:Own w base .i64 3 v xs)
 (b m c:Nat) (ys:List Nat) (hx:a.eval x= .slice (some ⟨b,0,none⟩) m c) (hm:m=ys.length) (hys:Ints w b ys)
 (hlen:xs.length+ys.length≤100000) (hbase:base≤w.heap.size)
 (h:∀v' w',Own w' base .i64 3 v' (xs++ys)→w.grownBy w' v.ownBlock→(v'= .slice none 0 0↔v= .slice none 0 0∧m=0)→wpList Tryz.prog ops Q rest (a.put o.dst v') w'):
 wpList Tryz.prog ops Q (o::rest) a w:=by
 obtain⟨i,hi,hz,hsz,hb⟩:=info_parts Tryz.inf3
 subst hm
 refine wpList_append_own w hgd s x 28 ho base 3 i _ 1 8 Tryz.underlying28 hi hz hsz hb rfl (by omega) v xs.length _ hs hown ⟨b,0,none⟩ ys.length c ((nl ys).map (Value.int .i64)) hx (by simp) ?_ ?_ (by simp only[maxLen];omega) (by omega) hbase ?_
 ·intro j u hj
  have hjl:j<ys.length:=by
   have:=(List.getElem?_eq_some_iff.1 hj).1;simpa using this
  have e:(⟨b,0,none⟩:Addr).add j=⟨b,j,none⟩:=addr_add b j
  rw[e,hys.2 j hjl,←hj,←getD_nl]
  simp[hjl,nl]
 ·intro u hu
  obtain⟨y,_,rfl⟩:=List.mem_map.1 hu
  rfl
 ·intro v' w' h1 h2 h3
  refine h v' w' ?_ h2 h3
  unfold Own
  rw[List.length_append]
  simpa[nl]using h1
def symIx (n:Int):Nat:=((n.tmod 29+29).tmod 29).toNat
theorem symIx_ok (n:Int):(n.tmod 29+29).tmod 29=(symIx n:Int)∧symIx n<29:=by
 have h1: -29<n.tmod 29:=by have:=Int.lt_tmod_of_pos n (b:=29) (by omega);omega
 have h2:=Int.tmod_lt_of_pos n (b:=29) (by omega)
 have h3:0≤(n.tmod 29+29).tmod 29:=Int.tmod_nonneg _ (by omega)
 have h4:=Int.tmod_lt_of_pos (n.tmod 29+29) (b:=29) (by omega)
 unfold symIx
 omega
theorem sy_data:∀i,i<29→3≤syN i 4:=by decide+kernel
def SymAtPost (i:Nat) (w:World) (e:Ending) (w':World):Prop:=e= .returned (.tuple #[syV i,.bool true])∧Below w.heap.size w w'
set_option maxRecDepth 100000 in
set_option maxHeartbeats 1000000 in
theorem symAt_calls (n:Int) (w:World):Calls Tryz.prog 20 #[.int .i64 n,.int .i64 0] w (SymAtPost (symIx n) w):=by
 obtain⟨q,hi⟩:=symIx_ok n
 have h1: -29<n.tmod 29:=by have:=Int.lt_tmod_of_pos n (b:=29) (by omega);omega
 have h2:=Int.tmod_lt_of_pos n (b:=29) (by omega)
 have hd:=sy_data _ hi
 obtain⟨i,hii⟩:∃i,i=symIx n:=⟨_,rfl⟩
 rw[←hii]at q hi hd ⊢
 clear hii
 have hm:(i:Int).tmod 29=(i:Int):=by rw[Int.tmod_eq_emod_of_nonneg (by omega),Int.emod_eq_of_lt (by omega) (by omega)]
 go_enter Tryz.func20,Tryz.ntmps20
 go_wp2_with (first|(go_at_call 17;refine(spSyms_calls _).mono ?_;rintro e w1 ⟨rfl,hr,hb,hz⟩))
 have hr':Row w1 (w.heap.size+1) .i64 30 syInts:=by simpa using hr
 have c0:w1.cell? ⟨w.heap.size+1,i*7,none⟩=some (.int .i64 (syN i 0)):=sy_cell hr' hi 0 (by omega)
 have c1:=sy_cell hr' hi 1 (by omega)
 have c2:=sy_cell hr' hi 2 (by omega)
 have c3:=sy_cell hr' hi 3 (by omega)
 have c4:=sy_cell hr' hi 4 (by omega)
 have c5:=sy_cell hr' hi 5 (by omega)
 have c6:=sy_cell hr' hi 6 (by omega)
 have hb5:w1.heap[w.heap.size]? =some (.cells #[.int .i64 0,.int .i64 0,.int .i64 0,.int .i64 0,.int .i64 0,.int .i64 0,.int .i64 0] 30):=(hb.block _ (by simp)).trans (new_last rfl _)
 obtain⟨l0,l1,l2,l3,l4,l5,l6⟩:=cells7 hb5
 obtain⟨f0,f1,f2,f3,f4,f5,f6⟩:=free7 hb5
 have hbw:Below w.heap.size w w1:=((Below.refl _ _).alloc (Nat.le_refl _) _).trans (hb.mono (by simp))
 have hz2:w.heap.size+1<w1.heap.size:=by simp at hz;omega
 have hz3:w.heap.size<w1.heap.size:=by omega
 have hz4:¬w.heap.size=w1.heap.size:=by omega
 have HBW:=Lib.hid hbw
 have HR:=Lib.hid hr'
 have H5:=Lib.hid hb5
 clear hr hr' hb hz hbw hb5
 refine wp_loop_rounds 1 ?_
 rw[rounds_succ]
 go_wp2
 have hst:=set7 (o:=none) (w:=w1) (b:=w.heap.size) H5.out (.int .i64 (syN i 0)) (.int .i64 (syN i 1)) (.int .i64 (syN i 2)) (.int .i64 (syN i 3)) (.int .i64 (syN i 4)) (.int .i64 (syN i 5)) (.int .i64 (syN i 6))
 have hbl:=below7 HBW.out (.int .i64 (syN i 0)) (.int .i64 (syN i 1)) (.int .i64 (syN i 2)) (.int .i64 (syN i 3)) (.int .i64 (syN i 4)) (.int .i64 (syN i 5)) (.int .i64 (syN i 6))
 clear l0 l1 l2 l3 l4 l5 l6 f0 f1 f2 f3 f4 f5 f6
 generalize (((((((w1.setCell ⟨w.heap.size,0,none⟩ (.int .i64 (syN i 0))).setCell ⟨w.heap.size,1,none⟩ (.int .i64 (syN i 1))).setCell ⟨w.heap.size,2,none⟩ (.int .i64 (syN i 2))).setCell ⟨w.heap.size,3,none⟩ (.int .i64 (syN i 3))).setCell ⟨w.heap.size,4,none⟩ (.int .i64 (syN i 4))).setCell ⟨w.heap.size,5,none⟩ (.int .i64 (syN i 5))).setCell ⟨w.heap.size,6,none⟩ (.int .i64 (syN i 6)))=w9 at*
 obtain⟨l0,l1,l2,l3,l4,l5,l6⟩:=cells7 ((Below.heap_alloc w9 (.cells #[.int .i64 (syN i 0),.int .i64 (syN i 1),.int .i64 (syN i 2),.int .i64 (syN i 3),.int .i64 (syN i 4),.int .i64 (syN i 5),.int .i64 (syN i 6)] 30) _ (lt_of_blk hst)).trans hst)
 refine bodyPost_ret (v:= .tuple #[syV i,.bool true]) ?_ rfl ⟨rfl,hbl.alloc hbl.size _⟩
 simp[results,Tryz.results20,go_sem,syV,l0,l1,l2,l3,l4,l5,l6]
end
section
open Go.RowKit
theorem and255_bd (x:Int):0≤bits .and .i64 x 255∧bits .and .i64 x 255≤255:=by
 have e:bits .and .i64 x 255=IntKind.i64.wrap (((BitVec.ofInt 64 x &&& BitVec.ofInt 64 255).toNat:Nat):Int):=rfl
 have h:(BitVec.ofInt 64 x &&& BitVec.ofInt 64 255).toNat≤255:=by
  rw[BitVec.toNat_and]
  exact Nat.and_le_right
 rw[e,IntWalk.i64_in _ (by omega)]
 omega
def dN (zs:List Int) (i:Nat):Nat:=(bits .and .i64 (IntKind.i64.wrap (zs.getD (i%zs.length) 0+((i/zs.length:Nat):Int)*7)) 255).toNat
def drawnN (zs:List Int) (n:Nat):List Nat:=(List.range n).map (dN zs)
@[simp] theorem drawnN_len (zs:List Int) (n:Nat):(drawnN zs n).length=n:=by simp[drawnN]
theorem dN_cast (zs:List Int) (i:Nat):bits .and .i64 (IntKind.i64.wrap (zs.getD (i%zs.length) 0+((i/zs.length:Nat):Int)*7)) 255=((dN zs i:Nat):Int):=by
 unfold dN
 have:=and255_bd (IntKind.i64.wrap (zs.getD (i%zs.length) 0+((i/zs.length:Nat):Int)*7))
 omega
theorem dN_lt (zs:List Int) (i:Nat):dN zs i<256:=by
 have:=and255_bd (IntKind.i64.wrap (zs.getD (i%zs.length) 0+((i/zs.length:Nat):Int)*7))
 have:=dN_cast zs i
 omega
def drawnTo (zs:List Int) (n k:Nat):List Nat:=drawnN zs k++List.replicate (n-k) 0
theorem drawnTo_zero (zs:List Int) (n:Nat):drawnTo zs n 0=List.replicate n 0:=by simp[drawnTo,drawnN]
theorem drawnTo_full (zs:List Int) (n:Nat):drawnTo zs n n=drawnN zs n:=by simp[drawnTo]
theorem drawnTo_len {zs:List Int} {n k:Nat} (h:k≤n):(drawnTo zs n k).length=n:=by simp[drawnTo];omega
theorem drawnTo_set {zs:List Int} {n k:Nat} (h:k<n):(drawnTo zs n k).set k (dN zs k)=drawnTo zs n (k+1):=by
 unfold drawnTo
 rw[List.set_append_right _ _ (by simp)]
 obtain⟨m,hm⟩:∃m,n-k=m+1:=⟨n-k-1,by omega⟩
 rw[hm,show n-(k+1)=m by omega]
 simp[drawnN,List.range_succ,List.replicate_succ]
theorem small_drawn (zs:List Int) (n:Nat):Small (drawnN zs n):=small_of_mem fun p hp=>by
 obtain⟨i,_,rfl⟩:=List.mem_map.1 hp
 exact dN_lt zs i
def DrawnPost (xs:List Nat) (w:World) (e:Ending) (w':World):Prop:=
 e= .returned (.slice (some ⟨w.heap.size+1,0,none⟩) xs.length xs.length)∧Row w' (w.heap.size+1) .i64 3 (nl xs)∧Below w.heap.size w w'
theorem sy_bd:∀i,i<29→3≤syN i 4∧syN i 4≤1304∧5≤syN i 5∧syN i 5≤496∧1≤syN i 6∧syN i 6≤8:=by decide+kernel
set_option maxRecDepth 100000 in
set_option maxHeartbeats 2000000 in
theorem drawn_calls {zs:List Int} {sb so cap:Nat} {w:World} (hs:∀j,j<zs.length→w.cell? ⟨sb,so+j,none⟩=some (.int .i64 (zs.getD j 0))) (hsb:sb<w.heap.size) (h1:1≤zs.length) (h2:zs.length≤1000) {i:Nat} (hi:i<29):
 Calls Tryz.prog 21 #[syV i,.slice (some ⟨sb,so,none⟩) zs.length cap] w (DrawnPost (drawnN zs (syN i 4)) w):=by
 obtain⟨d1,d2,_⟩:=sy_bd i hi
 unfold syV
 obtain⟨n,hn⟩:∃n,n=syN i 4:=⟨_,rfl⟩
 rw[←hn]at d1 d2 ⊢
 clear hn
 have hm:=make28 (n:Int) (by omega) (by omega)
 rw[Int.toNat_natCast]at hm
 have HS:=Lib.hid hs
 clear hs
 go_enter Tryz.func21,Tryz.ntmps21
 go_wp2
 go_loopw [12] (fun i wr=>∃k:Nat,k≤n∧i= .int .i64 k∧Hid (Row wr (w.heap.size+1) .i64 3 (nl (drawnTo zs n k)))∧Hid (Below w.heap.size w wr)) (fun i _=>n-(intOf i).toNat)
 case atStart=>exact⟨0,by omega,rfl,by rw[drawnTo_zero,←zs_nl];exact new_last (by simp) _,((Below.refl _ _).alloc (Nat.le_refl _) _).alloc (by simp) _⟩
 case round=>
  obtain⟨k,hk,rfl,hr,hb⟩:=hrel
  by_cases hlt:k<n
  ·have hmod:k%zs.length<zs.length:=Nat.mod_lt _ (by omega)
   have hcell:=(hb.out.cell (p:=⟨sb,so+k%zs.length,none⟩) hsb).trans (HS.out _ hmod)
   have cx:=hr.out.cell (i:=k) (by rw[length_nl,drawnTo_len hk];exact hlt)
   have fx:=hr.out.free k
   have hv:=dN_cast zs k
   have hset:=hr.out.set k (dN zs k)
   rw[set_nl,drawnTo_set hlt]at hset
   have HSET:=Lib.hid hset
   have HBS:=Lib.hid (hb.out.setCell (p:=⟨w.heap.size+1,k,none⟩) (by simp) (.int .i64 (dN zs k)))
   clear hset
   obtain⟨d,hd⟩:∃d,d=dN zs k:=⟨_,rfl⟩
   rw[←hd]at hv HSET HBS
   have HD:=Lib.hid hd
   clear hd
   have hzl:zs.length≠0:=by omega
   obtain⟨q,hq⟩:∃q,q=k/zs.length:=⟨_,rfl⟩
   obtain⟨r,hr2⟩:∃r,r=k%zs.length:=⟨_,rfl⟩
   have q1:(k:Int).tmod (zs.length:Int)=(r:Int):=by rw[hr2,Int.tmod_eq_emod_of_nonneg (by omega)];simp
   have q2:(k:Int).tdiv (zs.length:Int)=(q:Int):=by rw[hq,Int.tdiv_eq_ediv_of_nonneg (by omega)];simp
   have q3:q≤1304:=by rw[hq];exact Nat.le_trans (Nat.div_le_self _ _) (by omega)
   rw[←hr2]at hmod hcell hv
   rw[←hq]at hv
   generalize zs.getD r 0=z at*
   generalize zs.length=L at*
   have q4:IntKind.i64.wrap ((q:Int)*7)=(q:Int)*7:=IntWalk.i64_in _ (by omega)
   have q5:(r:Int)<(L:Int):=by omega
   have q6:(k:Int)<(n:Int):=by omega
   have q7:¬(L:Int)=0:=by omega
   have q8:((L:Int)==0)=false:=by rw[beq_eq_false_iff_ne];exact q7
   have q9:¬L=0:=by omega
   have hv2:bits .and .i64 (wrap64 (z+(q:Int)*7)) 255=(d:Int):=by rw[IntKind.wrap_i64]at hv;unfold wrap64;exact hv
   clear hq hr2 hv
   go_wp2
   go_still_tail 17,(by kernel_rfl)
   go_wp2
   exact⟨⟨k+1,by omega,by go_num,HSET.out.drew,below_dr HBS.out 1⟩,by simp[intOf];omega⟩
  ·obtain rfl:n=k:=by omega
   go_wp2
   go_ret
   rw[drawnTo_full]at hr
   exact⟨by rw[drawnN_len];rfl,hr.out,hb.out⟩
end
section
open Go.RowKit
def OctPost (xs:List Nat) (w:World) (e:Ending) (w':World):Prop:=
 ∃g cap,e= .returned (.tuple #[.slice (some ⟨g,0,none⟩) xs.length cap,.bool true])∧w.heap.size≤g∧Bytes w' g xs∧Below w.heap.size w w'
def IntsPost (xs:List Nat) (w:World) (e:Ending) (w':World):Prop:=
 ∃g cap,e= .returned (.slice (some ⟨g,0,none⟩) xs.length cap)∧w.heap.size≤g∧Ints w' g xs∧Below w.heap.size w w'
set_option maxRecDepth 100000 in
set_option maxHeartbeats 2000000 in
theorem octets_calls {xs:List Nat} {b cap:Nat} {w:World} (hx:Ints w b xs) (hs:Small xs) (h1:1≤xs.length) (h2:xs.length≤4000):
 Calls Tryz.prog 52 #[.slice (some ⟨b,0,none⟩) xs.length cap] w (OctPost xs w):=by
 have HX:=Lib.hid hx
 clear hx
 go_enter Tryz.func52,Tryz.ntmps52
 go_wp2
 go_loopw [9,4] (fun i v wr=>∃k:Nat,k≤xs.length∧i= .int .i64 k∧Hid (Own wr w.heap.size .u8 5 v (xs.take k))∧Hid (Below w.heap.size w wr)) (fun i _ _=>xs.length-(intOf i).toNat)
 case atStart=>exact⟨0,by omega,rfl,Own.nil _ _ _ _,Below.refl _ _⟩
 case round=>
  obtain⟨k,hk,rfl,ho,hb⟩:=hrel
  by_cases hlt:k<xs.length
  ·have cx:=(HX.out.below hb.out HX.out.1).2 k hlt
   have hz:=hs k
   have hsn:=take_snoc hlt
   have hll:(xs.take k).length≤4000:=by simp;omega
   have HLL:=Lib.hid hll
   obtain⟨z,hzz⟩:∃z,z=xs.getD k 0:=⟨_,rfl⟩
   rw[←hzz]at cx hz hsn
   have HSN:=Lib.hid hsn
   have hki:(k:Int)<(xs.length:Int):=by omega
   have hz0:(0:Int)≤(z:Int):=by omega
   have hz1:(z:Int)≤255:=by omega
   have hz2:(z:Int)%256=(z:Int):=by omega
   clear hzz hsn hll
   go_wp2_with (first|(refine app49 rfl (.tmp 19) (.tmp 22) rfl w.heap.size _ (xs.take k) rfl (ho.out.alloc _) wr.heap.size 1 1 [z] rfl rfl (Bytes.one rfl) (by have:=HLL.out;simp only[List.length_cons,List.length_nil];omega) (by have:=hb.out.size;simp;omega) ?_;intro v' w' ho2 hg hne;rw[HSN.out]at ho2;have HO:=Lib.hid ho2;have HB:=Lib.hid ((hb.out.alloc hb.out.size _).grown hg (by have:=hb.out.size;simp;omega) (fun g2 e=>(ho.out.lt g2 e).1));clear ho2 hg hne))
   exact⟨⟨k+1,by omega,by go_num,HO,HB⟩,by simp[intOf];omega⟩
  ·obtain rfl:xs.length=k:=by omega
   go_wp2
   go_ret2
   have ho':=ho.out
   rw[List.take_length]at ho'
   obtain⟨g,c2,rfl⟩:=ho'.slice (by omega)
   exact⟨g,c2,rfl,(ho'.lt g rfl).1,ho'.bytes,hb.out⟩
set_option maxRecDepth 100000 in
set_option maxHeartbeats 2000000 in
theorem ints_calls {xs:List Nat} {b cap:Nat} {w:World} (hx:Bytes w b xs) (hs:Small xs) (h1:1≤xs.length) (h2:xs.length≤4000):
 Calls Tryz.prog 47 #[.slice (some ⟨b,0,none⟩) xs.length cap] w (IntsPost xs w):=by
 have HX:=Lib.hid hx
 clear hx
 go_enter Tryz.func47,Tryz.ntmps47
 go_wp2
 go_loopw [8,3] (fun i v wr=>∃k:Nat,k≤xs.length∧i= .int .i64 k∧Hid (Own wr w.heap.size .i64 3 v (xs.take k))∧Hid (Below w.heap.size w wr)) (fun i _ _=>xs.length-(intOf i).toNat)
 case atStart=>exact⟨0,by omega,rfl,Own.nil _ _ _ _,Below.refl _ _⟩
 case round=>
  obtain⟨k,hk,rfl,ho,hb⟩:=hrel
  by_cases hlt:k<xs.length
  ·have cx:=(HX.out.below hb.out HX.out.1).2 k hlt
   have hz:=hs k
   have hsn:=take_snoc hlt
   have hll:(xs.take k).length≤4000:=by simp;omega
   have HLL:=Lib.hid hll
   obtain⟨z,hzz⟩:∃z,z=xs.getD k 0:=⟨_,rfl⟩
   rw[←hzz]at cx hz hsn
   have HSN:=Lib.hid hsn
   have hki:(k:Int)<(xs.length:Int):=by omega
   have hz0:(0:Int)≤(z:Int):=by omega
   have hz1:(z:Int)≤255:=by omega
   clear hzz hsn hll
   go_wp2_with (first|(refine app28 rfl (.tmp 12) (.tmp 15) rfl w.heap.size _ (xs.take k) rfl (ho.out.alloc _) wr.heap.size 1 1 [z] rfl rfl (Ints.one rfl) (by have:=HLL.out;simp only[List.length_cons,List.length_nil];omega) (by have:=hb.out.size;simp;omega) ?_;intro v' w' ho2 hg hne;rw[HSN.out]at ho2;have HO:=Lib.hid ho2;have HB:=Lib.hid ((hb.out.alloc hb.out.size _).grown hg (by have:=hb.out.size;simp;omega) (fun g2 e=>(ho.out.lt g2 e).1));clear ho2 hg hne))
   exact⟨⟨k+1,by omega,by go_num,HO,HB⟩,by simp[intOf];omega⟩
  ·obtain rfl:xs.length=k:=by omega
   go_wp2
   go_ret
   have ho':=ho.out
   rw[List.take_length]at ho'
   obtain⟨g,c2,rfl⟩:=ho'.slice (by omega)
   exact⟨g,c2,rfl,(ho'.lt g rfl).1,ho'.ints,hb.out⟩
set_option maxRecDepth 100000 in
set_option maxHeartbeats 2000000 in
theorem same_calls {xs:List Nat} {a b ca cb:Nat} {w:World} (hx:Ints w a xs) (hy:Ints w b xs) (h2:xs.length≤4000):
 Calls Tryz.prog 15 #[.slice (some ⟨a,0,none⟩) xs.length ca,.slice (some ⟨b,0,none⟩) xs.length cb] w fun e w'=>e= .returned (.bool true)∧∃n,w'=w.drewN n:=by
 have HX:=Lib.hid hx
 have HY:=Lib.hid hy
 clear hx hy
 go_enter Tryz.func15,Tryz.ntmps15
 go_wp2
 go_loopw [13] (fun i wr=>∃k:Nat,k≤xs.length∧i= .int .i64 k∧∃n,wr=w.drewN n) (fun i _=>xs.length-(intOf i).toNat)
 case atStart=>exact⟨0,by omega,rfl,0,rfl⟩
 case round=>
  obtain⟨k,hk,rfl,n,rfl⟩:=hrel
  by_cases hlt:k<xs.length
  ·have cx:=HX.out.2 k hlt
   have cy:=HY.out.2 k hlt
   have hki:(k:Int)<(xs.length:Int):=by omega
   generalize ((xs.getD k 0:Nat):Int)=z at*
   go_wp2
   go_quiet (fail)
   go_wp2
   exact⟨⟨k+1,by omega,by go_num,_,rfl⟩,by simp[intOf];omega⟩
  ·obtain rfl:xs.length=k:=by omega
   go_wp2
   go_ret
   exact⟨rfl,_,rfl⟩
end
end Go.Proofs.YtcnallabiffemaaGreatDoor
