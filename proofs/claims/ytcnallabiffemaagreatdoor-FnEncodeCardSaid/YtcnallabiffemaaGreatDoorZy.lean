/- The rim and the modules of a symbol; Sized; binary. -/
import Derived.Test.YtcnallabiffemaaGreatDoorZg14
import Derived.Test.YtcnallabiffemaaGreatDoorZw5
import Derived.Test.YtcnallabiffemaaGreatDoorZk
import Derived.Test.YtcnallabiffemaaGreatDoorZm4
import Derived.BigQuiet
set_option linter.unusedVariables false
set_option linter.unusedSimpArgs false
namespace Go.Proofs.YtcnallabiffemaaGreatDoor
section
open Go.RowKit
structure EA where
 (i mw mh nh nv sw sh dw dh tot:Nat)
 (cw out:List Nat)
 f:PS
 bits:List Int
structure EA.Ok (a:EA) (shape:Nat):Prop where
 hi:a.i<29
 hc1:1≤a.cw.length
 HL:lookSym (a.cw.length:Int) shape=some a.i
 henc:∀(wx:World) (b cb cap:Nat),wx.heap[b]? =some (.cells (siOf a.i) 112)→Bytes wx cb a.cw→Calls Tryz.prog 59 #[.slice (some ⟨cb,0,none⟩) a.cw.length cap,.pointer (some ⟨b,0,none⟩)] wx (EncPost a.out wx)
 HSO:Small a.out
 HLO:a.out.length=a.tot
 HF:placeG a.dh a.dw=some a.f
 hfl:a.f.evs.length=a.tot
 HBI:finishB a.dh a.dw (foldE a.dh a.dw a.out a.f.evs)=a.bits
 HD:mwOf a.i=(a.mw:Int)∧mhOf a.i=(a.mh:Int)∧dwOf a.i=(a.dw:Int)∧dhOf a.i=(a.dh:Int)∧swOf a.i=(a.sw:Int)∧shOf a.i=(a.sh:Int)
 HQ:a.dw=a.nh*a.mw∧a.dh=a.nv*a.mh∧a.sw=a.nh*(a.mw+2)∧a.sh=a.nv*(a.mh+2)
 e:6≤a.mw∧6≤a.mh∧a.mw≤24∧a.mh≤24∧6≤a.dw∧a.dw≤1000∧6≤a.dh∧a.dh≤1000∧1≤a.sw∧a.sw≤1000∧1≤a.sh∧a.sh≤1000∧1≤a.tot∧a.tot≤4000
def WriteE (G:EA→Prop) (w:World) (e:Ending) (w':World):Prop:=∃a:EA,G a∧WritePost a.sw a.sh a.mw a.mh a.dw a.bits w e w'
set_option maxRecDepth 100000 in
set_option maxHeartbeats 8000000 in
theorem writeE_calls {w:World} {s:ByteArray} {shape:Nat} {G:EA→Prop} (hne:s.toList.isEmpty=false) (hsh:shape<3) (hG:∀a,G a→a.Ok shape)
 (h46:Calls Tryz.prog 46 #[.string s,.int .i64 shape,.pointer none,.pointer none] w fun e w'=>∃a,G a∧HighPost a.cw w e w'):
 Calls Tryz.prog 30 #[.string s,.int .i64 shape] w (WriteE G w):=by
 go_enter Tryz.func30,Tryz.ntmps30
 go_wp2_with (first|(go_at_call 46;refine h46.mono ?_;rintro e w1 ⟨a,ha,hp⟩;obtain⟨i,mw,mh,nh,nv,sw,sh,dw,dh,tot,cw,out,f,bits⟩:=a;obtain⟨hi,hc1,qa,qb,qc,qd,qe,hfl,qf,qg,qh,e1,e2,e3,e4,e5,e6,e7,e8,e9,e10,e11,e12,e13,e14⟩:=hG _ ha;dsimp only at hi hc1 qa qb qc qd qe hfl qf qg qh e1 e2 e3 e4 e5 e6 e7 e8 e9 e10 e11 e12 e13 e14 hp;have HGA:=Lib.hid ha;have HL:=Lib.hid qa;have henc:=Lib.hid qb;have HSO:=Lib.hid qc;have HLO:=Lib.hid qd;have HF:=Lib.hid qe;have HFL:=Lib.hid hfl;have HBI:=Lib.hid qf;have HD:=Lib.hid qg;have HQ:=Lib.hid qh;clear hfl qa qb qc qd qe qf qg qh;obtain⟨v,k1,k2,k3⟩:=hp;obtain⟨g1,cap1,rfl,o1,b1⟩:=RowPost.of hc1 k1 k2 k3;have O1:=Lib.hid o1;have B1:=Lib.hid b1;clear o1 b1 k1 k2 k3 ha)|(go_at_call 42;refine(lookI_calls hsh HL.out _).mono ?_;rintro e w2 ⟨bs,rfl,hbs,hsi,b2⟩;have O2:=Lib.hid (O1.out.below b2 O1.out.1);have B2:=Lib.hid (B1.out.trans (b2.mono B1.out.size));have HSI:=Lib.hid hsi;have HBS:=Lib.hid hbs;clear b2 hsi hbs)|(go_at_call 59;refine((henc.out _ _ _ _ HSI.out O2.out).mono fun e w' ⟨v,k1,k2,k3⟩=>RowPost.of (by rw[HLO.out];exact e13) k1 k2 k3).mono ?_;rintro e w3 ⟨g3,cap3,rfl,o3,b3⟩;have O3:=Lib.hid o3;have B3:=Lib.hid (B2.out.trans (b3.mono B2.out.size));have HSJ:=Lib.hid ((b3.block _ HBS.out).trans HSI.out);clear o3 b3)|(go_at_call 63;refine(dwN_calls _ i _ (by omega) HD.out.2.2.1 HSJ.out).mono ?_;rintro e w' ⟨rfl,n1,rfl⟩)|(go_at_call 64;refine(dhN_calls _ i _ (by omega) HD.out.2.2.2.1 (blk_drewN HSJ.out)).mono ?_;rintro e w' ⟨rfl,n2,rfl⟩)|(go_at_call 54;refine(newP_calls (O3.out.drewN (n1+n2)) e7 e8 e5 e6).mono ?_;rintro e w4 ⟨rfl,p4,z4⟩;have P4:=Lib.hid p4;have B4:=Lib.hid (B3.out.trans ((dr_below p4.below).mono B3.out.size));have HSK:=Lib.hid (dr_blk p4.below HSJ.out);clear p4 z4)|(go_at_call 55;refine(place_calls P4.out HSO.out f HF.out (by rw[HFL.out,HLO.out];exact Nat.le_refl _) (by rw[HLO.out];exact e14)).mono ?_;rintro e w5 ⟨rfl,p5⟩;rw[HBI.out]at p5;have P5:=Lib.hid p5;have B5:=Lib.hid (B3.out.trans ((dr_below p5.below).mono B3.out.size));have HSM:=Lib.hid (dr_blk p5.below HSJ.out);clear p5)|(go_at_call 65;refine(low_calls (nw:=0) P5.out (by omega) HSM.out P5.out.below.size (lt_of_some P5.out.blk) P5.out.row.lt P5.out.byt.1 HD.out.1 HD.out.2.1 HD.out.2.2.1 HD.out.2.2.2.1 HD.out.2.2.2.2.1 HD.out.2.2.2.2.2 HQ.out.1 HQ.out.2.1 HQ.out.2.2.1 HQ.out.2.2.2 e1 e2 e3 e4 e9 e11 e10 e12).mono ?_;rintro e w6 ⟨b6,bm6,hb6,rfl,m6,k6,x6,b7⟩;have K6:=Lib.hid (And.intro hb6 (And.intro m6 (And.intro k6 (And.intro x6 b7))));clear hb6 m6 k6 x6 b7))
 go_ret2
 obtain⟨hb6,m6,k6,x6,b7⟩:=K6.out
 exact⟨_,HGA.out,_,_,by have:=B5.out.size;omega,rfl,m6,k6,x6,B5.out.trans (b7.mono B5.out.size)⟩
def EncRE (po base:Nat) (G:EA→Prop) (wq:World) (b:Bool) (w':World):Prop:=
 b=true∧∃a:EA,G a∧∃v gs,RowsM w' base v gs (matT a.sw a.sh (modT a.mw a.mh a.dw a.bits))∧w'.heap[po]? =some (.cells #[v] 24)∧But po wq w'
def EncInE (po base:Nat) (G:EA→Prop) (wq:World) (e:Ending) (w':World):Prop:=∃b,e= .returned (.bool b)∧EncRE po base G wq b w'
theorem EncInE.of {po base:Nat} {G:EA→Prop} {wq w':World} {v:Value} {gs:List (Nat×Nat)} {a:EA} {T:Nat→Nat→Int} (ha:G a) (hT:modT a.mw a.mh a.dw a.bits=T) (h:RowsM w' base v gs (matT a.sw a.sh T)) (h1:w'.heap[po]? =some (.cells #[v] 24)) (h2:But po wq w'):
 EncInE po base G wq (.returned (.bool true)) w':=⟨true,rfl,rfl,a,ha,v,gs,by rw[hT];exact h,h1,h2⟩
set_option maxRecDepth 100000 in
set_option maxHeartbeats 4000000 in
theorem encCloE_calls {wq:World} {pt ps po shape:Nat} {s:ByteArray} {G:EA→Prop} (hpt:wq.cell? ⟨pt,0,none⟩=some (.string s)) (hps:wq.cell? ⟨ps,0,none⟩=some (.int .i64 shape))
 (hpo:wq.heap[po]? =some (.cells #[.slice none 0 0] 24)) (h30:Calls Tryz.prog 30 #[.string s,.int .i64 shape] wq (WriteE G wq)) (hsz:∀a,G a→1≤a.sw∧a.sw≤1000∧a.sh≤1000):
 Calls Tryz.prog 29 #[.pointer (some ⟨pt,0,none⟩),.pointer (some ⟨ps,0,none⟩),.pointer (some ⟨po,0,none⟩)] wq (EncInE po wq.heap.size G wq):=by
 have HPO:=Lib.hid hpo
 have H30:=Lib.hid h30
 have hpl:=lt_of_blk hpo
 clear hpo h30
 go_enter Tryz.func29,Tryz.ntmps29
 go_wp2_with (first|(go_at_call 30;refine H30.out.mono ?_;rintro e w1 ⟨a,ha,hwp⟩;obtain⟨hw0,hw,hh⟩:=hsz a ha;obtain⟨sw,hsw⟩:∃x,x=a.sw:=⟨_,rfl⟩;obtain⟨sh,hsh⟩:∃x,x=a.sh:=⟨_,rfl⟩;obtain⟨T,hT⟩:∃x,x=modT a.mw a.mh a.dw a.bits:=⟨_,rfl⟩;rw[←hsw]at hw0 hw;rw[←hsh]at hh;obtain⟨b,bm,hb0,rfl,hbm,hsm,hpx,hbl⟩:=hwp;rw[←hsw,←hsh]at hbm hpx;rw[←hT]at hpx;have HA:=Lib.hid ha;have HSW:=Lib.hid hsw;have HSH:=Lib.hid hsh;have HT:=Lib.hid hT;clear ha hsw hsh hT;have k0:=hbm.k0;have k1:=hbm.k1;have HBM:=Lib.hid hbm;have HSM:=Lib.hid hsm;have HPX:=Lib.hid hpx;have HBL:=Lib.hid hbl;clear hbm hsm hpx hbl)|(go_at_call 31;refine(getH_calls k1).mono ?_;rintro e w2 ⟨rfl,rfl⟩))
 clear k0 k1
 go_loopw [19] (fun i wr=>∃k:Nat,k≤sh∧i= .int .i64 k∧∃v gs,Hid (RowsM wr wq.heap.size v gs (matT sw k T))∧Hid (wr.heap[po]? =some (.cells #[v] 24))∧Hid (But po wq wr)∧Hid (BitM wr b sw sh bm)) (fun i _=>sh-(intOf i).toNat)
 case atStart=>
  exact⟨0,by omega,rfl,_,[],RowsM.nil _ _,(HBL.out.block _ hpl).trans HPO.out,But.of HBL.out hpl,HBM.out⟩
 case round=>
  obtain⟨k,hk,rfl,v,gs,h1,h2,h3,h4⟩:=hrel
  by_cases hlt:k<sh
  ·have k0:=h4.out.k0
   go_wp2_with (first|(go_at_call 32;refine(getW_calls k0).mono ?_;rintro e w2 ⟨rfl,rfl⟩))
   clear k0
   obtain⟨wo,rfl⟩:∃wo:World,wo=wr:=⟨_,rfl⟩
   go_loopw [24,7] (fun x row wi=>∃j:Nat,j≤sw∧x= .int .i64 j∧Hid (Own wi wo.heap.size .u8 5 row (rowTo T k j))∧Hid (Below wo.heap.size wo wi)) (fun x _ _=>sw-(intOf x).toNat)
   case atStart=>exact⟨0,by omega,rfl,Own.nil _ _ _ _,Below.refl _ _⟩
   case round=>
    obtain⟨j,hj,rfl,ho,hb⟩:=hrel
    have hbm:=h4.out.below hb.out (lt_of_blk h4.out.blk)
    have HBMi:=Lib.hid hbm
    clear hbm
    by_cases hjl:j<sw
    ·cases hpv:pixel sw bm j k
     all_goals
      have HPV:=Lib.hid hpv
      clear hpv
      have hbt:=HPX.out j k hjl hlt
      rw[HPV.out]at hbt
     ·have hsn:=rowTo_succ T k j (b:=0) (by rw[←hbt];rfl)
      have HSN:=Lib.hid hsn
      clear hsn hbt
      have g33:=getBits_calls HBMi.out HSM.out j k hjl hlt hw hh
      rw[HPV.out]at g33
      go_wp2_with (first|(go_at_call 33;refine g33.mono ?_;rintro e w2 ⟨rfl,rfl⟩;clear g33)|(refine app49 rfl (.tmp 34) (.tmp 35) rfl wo.heap.size _ (rowTo T k j) rfl (ho.out.alloc _) _ 1 1 [0] rfl rfl (Bytes.one rfl) (by simp;omega) (by have:=hb.out.size;simp;omega) ?_;intro v' w' ho2 hg hne;rw[HSN.out]at ho2;have HO:=Lib.hid ho2;have HB:=Lib.hid ((hb.out.alloc hb.out.size _).grown hg (by have:=hb.out.size;simp;omega) (fun g2 e=>(ho.out.lt g2 e).1));clear ho2 hg hne))
      exact⟨⟨j+1,by omega,by go_num,HO,HB⟩,by simp[intOf];omega⟩
     ·have hsn:=rowTo_succ T k j (b:=1) (by rw[←hbt];rfl)
      have HSN:=Lib.hid hsn
      clear hsn hbt
      have g33:=getBits_calls HBMi.out HSM.out j k hjl hlt hw hh
      rw[HPV.out]at g33
      go_wp2_with (first|(go_at_call 33;refine g33.mono ?_;rintro e w2 ⟨rfl,rfl⟩;clear g33)|(refine app49 rfl (.tmp 31) (.tmp 32) rfl wo.heap.size _ (rowTo T k j) rfl (ho.out.alloc _) _ 1 1 [1] rfl rfl (Bytes.one rfl) (by simp;omega) (by have:=hb.out.size;simp;omega) ?_;intro v' w' ho2 hg hne;rw[HSN.out]at ho2;have HO:=Lib.hid ho2;have HB:=Lib.hid ((hb.out.alloc hb.out.size _).grown hg (by have:=hb.out.size;simp;omega) (fun g2 e=>(ho.out.lt g2 e).1));clear ho2 hg hne))
      exact⟨⟨j+1,by omega,by go_num,HO,HB⟩,by simp[intOf];omega⟩
    ·obtain rfl:sw=j:=by omega
     have hsz:=h3.out.size
     have hszi:=hb.out.size
     obtain⟨rg,rcap,hv⟩:=ho.out.slice (by simp;omega)
     rw[rowTo_len]at hv
     subst hv
     have hpo2:=(hb.out.block po (lt_of_blk h2.out)).trans h2.out
     have cpo:wr.cell? ⟨po,0,none⟩=some v:=(cell_blk hpo2 0).trans rfl
     have HPO2:=Lib.hid hpo2
     have hrm:=h1.out.below hb.out (Nat.le_refl _)
     have HRM:=Lib.hid hrm
     have hown:=hrm.own
     rw[matT_len]at hown
     have HOWN:=Lib.hid hown
     have HLN:=Lib.hid (show k=(rv gs (matT sw k T)).length by rw[rv_len hrm.len,matT_len])
     have H3:=Lib.hid (h3.out.trans hb.out hsz hpl)
     clear hpo2 hrm hown
     go_wp2_with (first|(refine app24 rfl (.tmp 38) (.tmp 40) rfl wq.heap.size v k (rv gs (matT sw k T)) rfl (HOWN.out.alloc _) HLN.out _ 1 _ rfl (by rw[cell_blk (new_last rfl _)];rfl) rfl (by omega) (by simp;omega) ?_;intro v' w' ho2 hg;obtain⟨gv,cv,rfl⟩:=own_slice ho2 (by omega);have HP:=Lib.hid (push_row (r:=rowTo T k sw) HRM.out HPO2.out hpl (by rw[rowTo_len];exact ho.out) (by omega) hg (by rw[matT_len,rowTo_len];exact ho2));have kp:w'.cell? ⟨po,0,none⟩=some v:=(cell_blk HP.out.1 0).trans rfl;have fp:=frozen_blk HP.out.1 0;clear ho2 hg))
     have hp:=HP.out
     exact⟨⟨k+1,by omega,by go_num,_,_,by rw[matT_succ];exact hp.2.1,hp.2.2.1,hp.2.2.2.1 _ H3.out (Nat.le_refl _),hp.2.2.2.2 _ _ _ _ HBMi.out⟩,by simp[intOf];omega⟩
  ·have HSH0:=HSH
   obtain rfl:sh=k:=by omega
   go_wp2
   go_ret
   rw[HSW.out,HSH0.out]at h1
   exact EncInE.of HA.out HT.out.symm h1.out h2.out h3.out
def EncTryE (po:Nat) (G:EA→Prop) (w:World) (e:Ending) (w':World):Prop:=
 ∃a:EA,G a∧∃v gs B,e= .returned (.bool true)∧po<B∧w'.heap[po]? =some (.cells #[v] 24)∧RowsM w' B v gs (matT a.sw a.sh (modT a.mw a.mh a.dw a.bits))∧Below w.heap.size w w'
theorem enc_tryE {w w1 w3:World} {s:ByteArray} {pt ps po shape:Nat} {G:EA→Prop} (h30:∀w,Calls Tryz.prog 30 #[.string s,.int .i64 shape] w (WriteE G w)) (hsz:∀a,G a→1≤a.sw∧a.sw≤1000∧a.sh≤1000)
 (hpt:w3.heap[pt]? =some (.cells #[.string s] 9)) (hpo:w3.heap[po]? =some (.cells #[.slice none 0 0] 24)) (hps:w3.heap[ps]? =some (.cells #[.int .i64 shape] 55)) (hb:Below w.heap.size w w3) (hwp:w.heap.size≤po):
 Calls Tryz.prog 28 #[.func (.func 29) #[] #[.pointer (some ⟨pt,0,none⟩),.pointer (some ⟨ps,0,none⟩),.pointer (some ⟨po,0,none⟩)]] w3 (EncTryE po G w):=by
 have lt:=lt_of_blk hpt
 have lo:=lt_of_blk hpo
 have ls:=lt_of_blk hps
 have k1:(w3.alloc (.cells #[.bool false] 4)).heap[po]? =_:=(Below.heap_alloc _ _ _ lo).trans hpo
 refine(try_calls (R:=fun b w'=>EncRE po (w3.heap.size+1) G (w3.alloc (.cells #[.bool false] 4)) b w') (enter29 _ _ _) ((encCloE_calls (s:=s) (shape:=shape) (G:=G) (by rw[cell_blk ((Below.heap_alloc _ _ _ lt).trans hpt)];rfl) (by rw[cell_blk ((Below.heap_alloc _ _ _ ls).trans hps)];rfl) k1 (h30 _) hsz).mono ?_)).mono ?_
 ·rintro e w' ⟨b,rfl,hr⟩
  have hr':EncRE po (w3.heap.size+1) G (w3.alloc (.cells #[.bool false] 4)) b w':=by simpa using hr
  refine⟨b,rfl,?_,hr'⟩
  obtain⟨_,a,_,v,gs,_,_,hbut⟩:=hr
  exact(hbut.rest _ (by simp) (by omega)).trans (new_last rfl _)
 ·rintro e w'' ⟨b,w2,rfl,hr,rfl⟩
  obtain⟨rfl,a,ha,v,gs,h1,h2,hbut⟩:=hr
  refine⟨a,ha,v,gs,w3.heap.size+1,rfl,by omega,?_,h1.set_ne (by simp) _,?_⟩
  ·rw[Below.heap_setCell _ _ _ _ (by simp;omega)];exact h2
  ·have hz:=hb.size
   exact((hb.alloc hz _).trans (hbut.below.mono hwp)).setCell (by simpa using hz) _
def EncodeE (G:EA→Prop) (w:World) (e:Ending) (w':World):Prop:=
 ∃a:EA,G a∧∃v gs,e= .returned (.tuple #[v,.bool true])∧RowsM w' w.heap.size v gs (matT a.sw a.sh (modT a.mw a.mh a.dw a.bits))∧Below w.heap.size w w'
set_option maxRecDepth 100000 in
set_option maxHeartbeats 4000000 in
theorem encodeE_calls {w:World} {s:ByteArray} {shape:Nat} {G:EA→Prop} (hs:shape<3)
 (h30:∀w,Calls Tryz.prog 30 #[.string s,.int .i64 shape] w (WriteE G w)) (hsz:∀a,G a→1≤a.sw∧a.sw≤1000∧a.sh≤1000) (hsh:∀a,G a→1≤a.sh):
 Calls Tryz.prog 10 #[.string s,.int .i64 shape] w (EncodeE G w):=by
 have hmf:∀(fn:Fn) (first cap:Array Value) (w:World),(Instr.makeFunc fn first cap).run Tryz.prog w= .ok (.func fn first cap) w:=fun _ _ _ _=>rfl
 have b0:Below w.heap.size w ((w.alloc (.cells #[.string s] 9)).alloc (.cells #[.slice none 0 0] 24)):=((Below.refl _ _).alloc (Nat.le_refl _) _).alloc (by simp) _
 have c1:((w.alloc (.cells #[.string s] 9)).alloc (.cells #[.slice none 0 0] 24)).heap[w.heap.size]? =some (.cells #[.string s] 9):=(Below.heap_alloc _ _ _ (by simp)).trans (new_last rfl _)
 have c2:((w.alloc (.cells #[.string s] 9)).alloc (.cells #[.slice none 0 0] 24)).heap[w.heap.size+1]? =some (.cells #[.slice none 0 0] 24):=new_last (by simp) _
 have B0:=Lib.hid b0
 have C1:=Lib.hid c1
 have C2:=Lib.hid c2
 clear b0 c1 c2
 go_enter Tryz.func10,Tryz.ntmps10
 go_wp2_with (first|(go_at_call 27;refine(shapesOk_calls hs _).mono ?_;rintro e w1 ⟨rfl,hb⟩;have hz:=hb.size;simp only[alloc_heap,Array.size_push]at hz;have D1:=Lib.hid ((Below.heap_alloc w1 (.cells #[.int .i64 shape] 55) _ (by omega)).trans ((hb.block _ (by simp;omega)).trans C1.out));have D2:=Lib.hid ((Below.heap_alloc w1 (.cells #[.int .i64 shape] 55) _ (by omega)).trans ((hb.block _ (by simp)).trans C2.out));have DB:=Lib.hid ((B0.out.trans (hb.mono (by simp;omega))).alloc (by omega) (.cells #[.int .i64 shape] 55));clear hb)|(go_at_call 28;refine(enc_tryE (pt:=w.heap.size) (ps:=w1.heap.size) (po:=w.heap.size+1) (w1:=w1) h30 hsz D1.out D2.out (new_last rfl _) DB.out (by omega)).mono ?_;rintro e w4 ⟨a,ha,v,gs,B,rfl,hpB,hpo,hr,hb4⟩;have hsh1:=hsh a ha;obtain⟨gv,cv,rfl⟩:=own_slice hr.own (by simp;omega);rw[matT_len]at hpo hr;obtain⟨sh,hshh⟩:∃x,x=a.sh:=⟨_,rfl⟩;rw[←hshh]at hpo hr;have HSH:=Lib.hid hshh;have HA:=Lib.hid ha;clear ha hshh;have k:w4.cell? ⟨w.heap.size+1,0,none⟩=some (.slice (some ⟨gv,0,none⟩) sh cv):=(cell_blk hpo 0).trans rfl;have f:=frozen_blk hpo 0;have HPO:=Lib.hid hpo;have HR:=Lib.hid hr;have HB4:=Lib.hid hb4;clear hpo hr hb4))
 have k2:(w4.setCell ⟨w.heap.size+1,0,none⟩ (.slice (some ⟨gv,0,none⟩) sh cv)).cell? ⟨w.heap.size+1,0,none⟩=some (.slice (some ⟨gv,0,none⟩) sh cv):=by rw[cell_blk (heap_setCell_at HPO.out 0 _)];rfl
 refine bodyPost_ret (v:= .tuple #[.slice (some ⟨gv,0,none⟩) sh cv,.bool true]) (by simp[results,Tryz.results10,go_sem,k2]) rfl ⟨a,HA.out,_,gs,rfl,?_,HB4.out.setCell (by simp) _⟩
 rw[←HSH.out]
 exact(HR.out.set_ne hpB _).base (by omega)
end
section
open Go.RowKit
def mkEA (j:Nat) (l:List Nat) (f:PS):EA:=
 ⟨pkgIx j,mwN (pkgIx j),mhN (pkgIx j),nhN (pkgIx j),nvN (pkgIx j),swN (pkgIx j),shN (pkgIx j),dwN (pkgIx j),dhN (pkgIx j),totN (pkgIx j),l,wordsN j l,f,bitsOf (pkgIx j) (wordsN j l) f⟩
def EncG (msg:List Nat) (shape:Nat) (a:EA):Prop:=
 ∃j l f,j<29∧a=mkEA j l f∧HighG msg shape l (pkgIx j)∧l.length=syN j 4∧placeG (dhN (pkgIx j)) (dwN (pkgIx j))=some f∧f.evs.length=totN (pkgIx j)
theorem pkg_onto:∀i,i<29→∃j,j<29∧pkgIx j=i:=by decide+kernel
theorem pkg_tot:∀j,j<29→totN (pkgIx j)=syN j 4+syN j 5:=by decide+kernel
theorem EncG.ok {msg:List Nat} {shape:Nat} {a:EA} (h:EncG msg shape a):a.Ok shape:=by
 obtain⟨j,l,f,hj,rfl,hg,hl,hf,hfl⟩:=h
 obtain⟨h1,_⟩:=pkg_ok j hj
 have hs:=small_of_mem hg.sm
 exact⟨h1,hg.n1,hg.lk,fun wx b cb cap hb hcw=>encAll_calls hj hb hl hs hcw,small_words hj hs,by show (wordsN j l).length=totN (pkgIx j);rw[wordsN_len hl,pkg_tot j hj],hf,hfl,rfl,dims1 h1,⟨rfl,rfl,rfl,rfl⟩,dims2 h1⟩
theorem high46E {s:ByteArray} {shape:Nat} (h:FitsP s (shape:Int)) (w:World):Calls Tryz.prog 46 #[.string s,.int .i64 shape,.pointer none,.pointer none] w fun e w'=>∃a,EncG (txt s) shape a∧HighPost a.cw w e w':=by
 refine(h.calls46 w).mono ?_
 rintro e w' ⟨l,i,hg,hp⟩
 obtain⟨j,hj,rfl⟩:=pkg_onto i hg.i29
 obtain⟨f,hf,hfl⟩:=dims3 hg.i29
 have hd:=(pkg_ok j hj).2.2.2.1
 exact⟨mkEA j l f,⟨j,l,f,hj,rfl,hg,by have:=hg.dat;omega,hf,hfl⟩,hp⟩
theorem implEncode_calls {s:ByteArray} {shape:Nat} (h:FitsP s (shape:Int)) (w:World):Calls Tryz.prog 10 #[.string s,.int .i64 shape] w (EncodeE (EncG (txt s) shape) w):=by
 have hs:shape<3:=by have:=h.2.2.2.2.1;omega
 have hok:=fun a (ha:EncG (txt s) shape a)=>ha.ok
 refine encodeE_calls hs (fun w=>writeE_calls ?_ hs hok (high46E h w)) (fun a ha=>?_) (fun a ha=>?_)
 ·have:=toList_ne h.2.1
  cases e:s.toList with
  |nil=>exact absurd e this
  |cons x r=>rfl
 ·obtain⟨_,_,_,_,_,_,_,_,h9,h10,_,h12,_⟩:=(hok a ha).e
  exact⟨h9,h10,h12⟩
 ·obtain⟨_,_,_,_,_,_,_,_,_,_,h11,_⟩:=(hok a ha).e
  exact h11
def matE (a:EA):List (List Nat):=matT a.sw a.sh (modT a.mw a.mh a.dw a.bits)
theorem matT_row (sw sh:Nat) (T:Nat→Nat→Int) (y:Nat) (hy:y<sh):(matT sw sh T).getD y []=rowT sw T y:=by
 rw[List.getD_eq_getElem?_getD];simp[matT,hy]
theorem rowT_get (sw:Nat) (T:Nat→Nat→Int) (y x:Nat) (hx:x<sw):(rowT sw T y).getD x 0=bitN (T y x==1):=by
 rw[List.getD_eq_getElem?_getD];simp[rowT,hx]
@[simp] theorem rowT_len (sw:Nat) (T:Nat→Nat→Int) (y:Nat):(rowT sw T y).length=sw:=by simp[rowT]
section
variable {w:World} {base sw sh:Nat} {v:Value} {gs:List (Nat×Nat)} {T:Nat→Nat→Int}
theorem RowsM.at (h:RowsM w base v gs (matT sw sh T)) {gv cv:Nat} (hv:v= .slice (some ⟨gv,0,none⟩) sh cv) {y:Nat} (hy:y<sh):
 ∃g cap,w.cell? ⟨gv,y,none⟩=some (.slice (some ⟨g,0,none⟩) sw cap)∧∀x,x<sw→w.cell? ⟨g,x,none⟩=some (.int .u8 ((bitN (T y x==1):Nat):Int)):=by
 obtain⟨h1,_,_⟩:=h.row y (by rw[matT_len];exact hy)
 rw[matT_row sw sh T y hy]at h1
 refine⟨(gs.getD y (0,0)).1,(gs.getD y (0,0)).2,?_,fun x hx=>?_⟩
 ·rcases h.own.2 with⟨hn,hl⟩|⟨g,cap,cur,he,hg,hh,hn,hm,hs,ht⟩
  ·rw[matT_len]at hl;omega
  ·rw[hv]at he
   simp only[Value.slice.injEq,Option.some.injEq,Addr.mk.injEq,and_true]at he
   obtain⟨rfl,hl1,rfl⟩:=he
   rw[cell_blk hh]
   have hlen:(rv gs (matT sw sh T)).length=sh:=by rw[rv_len h.len,matT_len]
   have e1:cur[y]? =(cur.toList.take ((matT sw sh T).length*1))[y]? :=by
    rw[List.getElem?_take,if_pos (by rw[matT_len];omega),Array.getElem?_toList]
   rw[e1,ht]
   have hgl:=h.len
   rw[matT_len]at hgl
   unfold rv
   rw[List.getElem?_zipWith]
   have e2:gs[y]? =some (gs.getD y (0,0)):=by rw[List.getD_eq_getElem?_getD,List.getElem?_eq_getElem (by omega),Option.getD_some]
   have e3:(matT sw sh T)[y]? =some (rowT sw T y):=by simp[matT,hy]
   rw[e2,e3]
   simp
 ·have:=h1.2 x (by simpa using hx)
  rw[this,rowT_get sw T y x hx]
end
end
section
open Go.RowKit
section
variable {rows cols:Nat}
theorem put1_free {occ o':Nat} {p:Int×Int} (h:put1 rows cols occ p=some o'):occ.testBit (idxR rows cols p.1 p.2).toNat=false∧(idxR rows cols p.1 p.2).toNat<rows*cols:=by
 unfold put1 at h
 split at h
 ·rename_i hc
  simp only[Bool.and_eq_true,Bool.not_eq_true']at hc
  have:=inRB_ok hc.1
  obtain⟨_,_,_,_,h5,h6⟩:=this
  exact⟨hc.2,by omega⟩
 ·cases h
theorem setLS_keep {pos:Nat}:∀(ps:List (Int×Int)) (k occ o':Nat) (bits:List Int),bits.length=rows*cols→OccI bits occ→putAll rows cols ps occ=some o'→
 (∀i,i<rows*cols→0≤bits.getD i 0→(setLS rows cols pos k ps bits).getD i 0=bits.getD i 0)∧∀t,t<ps.length→∃i,i<rows*cols∧(setLS rows cols pos k ps bits).getD i 0=((8*pos+(k+t):Nat):Int)
 |[],k,occ,o',bits,hl,h,hp=>⟨fun i _ _=>rfl,fun t ht=>by simp at ht⟩
 |p::ps,k,occ,o',bits,hl,h,hp=>by
  rw[putAll]at hp
  obtain⟨o1,h1,h2⟩:=Option.bind_eq_some_iff.1 hp
  obtain⟨f1,f2⟩:=put1_free h1
  obtain⟨a,b⟩:=h.setS1 (m:=8*pos+k) h1
  have hneg:¬0≤bits.getD (idxR rows cols p.1 p.2).toNat 0:=by
   have:=h _ (show (idxR rows cols p.1 p.2).toNat<bits.length by omega)
   rw[f1]at this
   simpa using this.symm
  obtain⟨c,d⟩:=setLS_keep (pos:=pos) ps (k+1) o1 o' _ (by rw[List.length_set];exact hl) b h2
  have hset:∀i,i<rows*cols→(bits.set (idxR rows cols p.1 p.2).toNat ((8*pos+k:Nat):Int)).getD i 0=if (idxR rows cols p.1 p.2).toNat=i then((8*pos+k:Nat):Int)else bits.getD i 0:=fun i hi=>getD_set (by omega)
  refine⟨fun i hi h0=>?_,fun t ht=>?_⟩
  ·rw[setLS]
   have hne:¬(idxR rows cols p.1 p.2).toNat=i:=fun e=>hneg (by rw[e];exact h0)
   have e:=hset i hi
   rw[if_neg hne]at e
   rw[c i hi (by rw[e];exact h0),e]
  ·cases t with
   |zero=>
    refine⟨_,f2,?_⟩
    rw[setLS]
    have e:=hset _ f2
    rw[if_pos rfl]at e
    rw[c _ f2 (by rw[e];omega),e,Nat.add_zero]
   |succ t=>
    obtain⟨i,hi,e⟩:=d t (by simp at ht;omega)
    exact⟨i,hi,by rw[setLS,e,show k+1+t=k+(t+1) by omega]⟩
def SurI (rows cols:Nat) (s:PS):Prop:=OccI (foldS rows cols s.evs) s.occ∧∀z,z<8*s.evs.length→∃i,i<rows*cols∧(foldS rows cols s.evs).getD i 0=(z:Int)
theorem putEv_sur {ev:Nat×Int×Int} {s s':PS} (hp:putEv rows cols ev s=some s') (h:SurI rows cols s):SurI rows cols s':=by
 obtain⟨ho,hz⟩:=h
 have h3:=(putEv_okS hp ho).2.2
 unfold putEv at hp
 obtain⟨o,h1,h2⟩:=Option.map_eq_some_iff.1 hp
 subst h2
 obtain⟨a,b⟩:=setLS_keep (pos:=s.evs.length) _ 0 _ _ _ (length_foldS rows cols s.evs) ho h1
 refine⟨h3,fun z hzz=>?_⟩
 simp only[List.length_cons]at hzz
 by_cases hlt:z<8*s.evs.length
 ·obtain⟨i,hi,e⟩:=hz z hlt
  exact⟨i,hi,by rw[foldS,a i hi (by rw[e];omega),e]⟩
 ·obtain⟨i,hi,e⟩:=b (z-8*s.evs.length) (by rw[coords_len];omega)
  exact⟨i,hi,by rw[foldS,e];congr 1;omega⟩
theorem visit_sur {row col:Int} {s s':PS} (hp:visit rows cols row col s=some s') (h:SurI rows cols s):SurI rows cols s':=by
 unfold visit at hp
 split at hp
 ·split at hp
  ·cases hp;exact h
  ·exact putEv_sur hp h
 ·cases hp
theorem upV_sur {row col:Int} {s s':PS} (hp:upV rows cols row col s=some s') (h:SurI rows cols s):SurI rows cols s':=by
 unfold upV at hp
 split at hp
 ·split at hp
  ·exact visit_sur hp h
  ·cases hp;exact h
 ·cases hp
theorem downV_sur {row col:Int} {s s':PS} (hp:downV rows cols row col s=some s') (h:SurI rows cols s):SurI rows cols s':=by
 unfold downV at hp
 split at hp
 ·split at hp
  ·exact visit_sur hp h
  ·cases hp;exact h
 ·cases hp
theorem cornerG_sur {row col:Int} {s s':PS} (hp:cornerG rows cols row col s=some s') (h:SurI rows cols s):SurI rows cols s':=by
 unfold cornerG at hp
 split at hp
 ·cases hp;exact h
 ·exact putEv_sur hp h
theorem upS_sur:∀(k:Nat) (row col:Int) (s:PS) (x:Int×Int×PS),upS rows cols k row col s=some x→SurI rows cols s→SurI rows cols x.2.2
 |0,_,_,_,_,h,_=>by cases h
 |k+1,row,col,s,x,h,hs=>by
  rw[upS]at h
  split at h
  ·split at h
   ·obtain⟨s1,h1,h2⟩:=Option.bind_eq_some_iff.1 h
    exact upS_sur k _ _ _ _ h2 (upV_sur h1 hs)
   ·cases h;exact hs
  ·cases h
theorem downS_sur:∀(k:Nat) (row col:Int) (s:PS) (x:Int×Int×PS),downS rows cols k row col s=some x→SurI rows cols s→SurI rows cols x.2.2
 |0,_,_,_,_,h,_=>by cases h
 |k+1,row,col,s,x,h,hs=>by
  rw[downS]at h
  split at h
  ·split at h
   ·obtain⟨s1,h1,h2⟩:=Option.bind_eq_some_iff.1 h
    exact downS_sur k _ _ _ _ h2 (downV_sur h1 hs)
   ·cases h;exact hs
  ·cases h
theorem outS_sur:∀(k:Nat) (row col:Int) (s f:PS),outS rows cols k row col s=some f→SurI rows cols s→SurI rows cols f
 |0,_,_,_,_,h,_=>by cases h
 |k+1,row,col,s,f,h,hs=>by
  obtain⟨_,h5⟩:=outS_step h
  rcases h5 with⟨_,rfl⟩|⟨_,s1,x,y,h1,h2,h4,h5⟩
  ·exact hs
  ·exact outS_sur k _ _ _ _ h5 (downS_sur _ _ _ _ _ h4 (upS_sur _ _ _ _ _ h2 (cornerG_sur h1 hs)))
theorem place_sur {f:PS} (hf:placeS rows cols=some f) (hh:fullB rows cols f.occ=true∨holeB rows cols f.occ=true) (r0:6≤rows) (c0:6≤cols):
 ∀z,z<8*f.evs.length→∃i,i<rows*cols∧(finishS rows cols (foldS rows cols f.evs)).getD i 0=(z:Int):=by
 obtain⟨ho,hs⟩:=outS_sur _ _ _ _ _ hf ⟨OccI.initS rows cols,fun z hz=>by simp at hz⟩
 have hl:=length_foldS rows cols f.evs
 intro z hz
 obtain⟨i,hi,e⟩:=hs z hz
 refine⟨i,hi,?_⟩
 generalize foldS rows cols f.evs=S at*
 have hn:6*cols≤rows*cols:=Nat.mul_le_mul_right _ r0
 unfold finishS
 split
 ·rename_i hneg
  have hbit:∀q,q<rows*cols→(holes rows cols).testBit q=true→S.getD q 0<0:=fun q hq hb=>by
   have h1:=ho q (by omega)
   rcases hh with hh|hh
   ·have hocc:f.occ=2^(rows*cols)-1:=by simpa[fullB]using hh
    have h2:=ho (rows*cols-1) (by omega)
    rw[hocc,Nat.testBit_two_pow_sub_one]at h2
    have h3:decide (0≤S.getD (rows*cols-1) 0)=true:=by rw[h2];simp;omega
    have:=of_decide_eq_true h3
    omega
   ·unfold holeB at hh
    simp only[Bool.and_eq_true,beq_iff_eq]at hh
    have h2:=congrArg (fun x=>Nat.testBit x q) hh.2
    simp only[Nat.testBit_and,Nat.zero_testBit,hb,Bool.and_true]at h2
    rw[h2]at h1
    have:=of_decide_eq_false h1
    omega
  have t1:(holes rows cols).testBit (rows*cols-2)=true:=by
   unfold holes;simp[Nat.testBit_or,Nat.testBit_shiftLeft]
  have t2:(holes rows cols).testBit (rows*cols-cols-1)=true:=by
   unfold holes;simp[Nat.testBit_or,Nat.testBit_shiftLeft]
  have n1:=hbit _ (by omega) t1
  have n2:=hbit _ (by omega) t2
  rw[getD_set (by simp;omega),if_neg (fun e2=>by rw[e2,e]at n2;omega),getD_set (by omega),if_neg (fun e2=>by rw[e2,e]at n1;omega),e]
 ·exact e
theorem fin_low' {N:Nat} {evs:List (Nat×Int×Int)} (h:evs.length≤N) {i:Nat} (hi:i<rows*cols):
 (finishS rows cols (foldS rows cols evs)).getD i 0= -1∨(finishS rows cols (foldS rows cols evs)).getD i 0= -2∨(0≤(finishS rows cols (foldS rows cols evs)).getD i 0∧(finishS rows cols (foldS rows cols evs)).getD i 0<8*(N:Int)):=by
 have hl:=length_foldS rows cols evs
 have hlow:=low_fold rows cols N evs h
 generalize foldS rows cols evs=S at*
 have h0:=hlow i (by omega)
 have h1:∀(p:Prop) [Decidable p] (y:Int),y= -1∨y= -2∨(0≤y∧y<8*(N:Int))→(if p then(-2:Int)else y)= -1∨(if p then(-2:Int)else y)= -2∨(0≤(if p then(-2:Int)else y)∧(if p then(-2:Int)else y)<8*(N:Int)):=fun p _ y hy=>by
  split
  ·exact .inr (.inl rfl)
  ·exact hy
 have h2:S.getD i 0= -1∨S.getD i 0= -2∨(0≤S.getD i 0∧S.getD i 0<8*(N:Int)):=by omega
 unfold finishS
 split
 ·rw[getD_set (by simp;omega),getD_set (by omega)]
  exact h1 _ _ (h1 _ _ h2)
 ·exact h2
end
def wordsT (P:List Int) (m:Nat→Nat) (N:Nat):Nat→List Nat
 |0=>List.replicate N 0
 |n+1=>if 0≤P.getD n 0 then(wordsT P m N n).set ((P.getD n 0).toNat/8) ((wordsT P m N n).getD ((P.getD n 0).toNat/8) 0 ||| m n <<< (7-(P.getD n 0).toNat%8))else wordsT P m N n
theorem wordsT_len (P:List Int) (m:Nat→Nat) (N:Nat):∀n,(wordsT P m N n).length=N
 |0=>by simp[wordsT]
 |n+1=>by
  rw[wordsT]
  split
  ·rw[List.length_set,wordsT_len P m N n]
  ·exact wordsT_len P m N n
theorem bit_shift {x c b:Nat} (h:x≤1):(x <<< c).testBit b=(decide (b=c)&&x.testBit 0):=by
 rw[Nat.testBit_shiftLeft]
 by_cases h1:c≤b
 ·by_cases h2:b=c
  ·subst h2;simp
  ·have:x.testBit (b-c)=false:=Nat.testBit_lt_two_pow (Nat.lt_of_le_of_lt h (by have:2^1≤2^(b-c):=Nat.pow_le_pow_right (by decide) (by omega);omega))
   simp[h1,h2,this]
 ·simp[h1,show ¬b=c by omega]
theorem wordsT_bits {P:List Int} {m:Nat→Nat} {N M:Nat} {out:List Nat} (hm:∀n,n<M→0≤P.getD n 0→m n=wantN out (P.getD n 0)) (hP:∀n,n<M→0≤P.getD n 0→P.getD n 0<8*(N:Int)):
 ∀n,n≤M→∀w,w<N→∀b,((wordsT P m N n).getD w 0).testBit b=true↔b<8∧(out.getD w 0).testBit b=true∧∃i,i<n∧P.getD i 0=((8*w+(7-b):Nat):Int)
 |0,_,w,hw,b=>by
  have:(wordsT P m N 0).getD w 0=0:=by simp[wordsT,List.getD_eq_getElem?_getD,List.getElem?_replicate,hw]
  rw[this]
  simp
 |n+1,hn,w,hw,b=>by
  have ih:=wordsT_bits hm hP n (by omega) w hw b
  have hlen:=wordsT_len P m N n
  rw[wordsT]
  by_cases h0:0≤P.getD n 0
  ·rw[if_pos h0]
   obtain⟨z,hz⟩:=Int.eq_ofNat_of_zero_le h0
   have hz':P.getD n 0=(z:Int):=hz
   have hzl:=hP n (by omega) h0
   have hmn:=hm n (by omega) h0
   rw[hz']at hmn hzl ⊢
   rw[Int.toNat_natCast]
   have hw0:z/8<N:=by omega
   have hmv:m n=(out.getD (z/8) 0 >>> (7-z%8)) &&& 1:=by rw[hmn];unfold wantN;rw[if_pos (by omega),Int.toNat_natCast]
   have hm1:m n≤1:=by rw[hmv,Nat.and_one_is_mod];omega
   have hm0:(m n).testBit 0=(out.getD (z/8) 0).testBit (7-z%8):=by
    rw[hmv,Nat.testBit_and,Nat.testBit_shiftRight];simp
   have hget:∀v,((wordsT P m N n).set (z/8) v).getD w 0=if z/8=w then v else(wordsT P m N n).getD w 0:=fun v=>by
    simp only[List.getD_eq_getElem?_getD,List.getElem?_set]
    split
    ·rw[if_pos (by omega)];simp
    ·rfl
   rw[hget]
   by_cases hww:z/8=w
   ·rw[if_pos hww,Nat.testBit_or,bit_shift hm1,hm0,hww,Bool.or_eq_true,ih]
    constructor
    ·rintro(⟨a,c,i,hi,e⟩|h)
     ·exact⟨a,c,i,by omega,e⟩
     ·simp only[Bool.and_eq_true,decide_eq_true_eq]at h
      obtain⟨rfl,h2⟩:=h
      exact⟨by omega,h2,n,by omega,by rw[hz'];omega⟩
    ·rintro⟨a,c,i,hi,e⟩
     by_cases hin:i=n
     ·subst hin
      rw[hz']at e
      right
      have e':z=8*w+(7-b):=Int.ofNat.inj e
      have hb:b=7-z%8:=by clear ih hmv hm0 hmn hm hP e hz hz' h0 hget;omega
      simp only[Bool.and_eq_true,decide_eq_true_eq]
      exact⟨hb,by rw[←hb];exact c⟩
     ·exact .inl ⟨a,c,i,by omega,e⟩
   ·rw[if_neg hww,ih]
    constructor
    ·rintro⟨a,c,i,hi,e⟩;exact⟨a,c,i,by omega,e⟩
    ·rintro⟨a,c,i,hi,e⟩
     refine⟨a,c,i,?_,e⟩
     by_cases hin:i=n
     ·subst hin;rw[hz']at e;omega
     ·omega
  ·rw[if_neg h0,ih]
   constructor
   ·rintro⟨a,c,i,hi,e⟩;exact⟨a,c,i,by omega,e⟩
   ·rintro⟨a,c,i,hi,e⟩
    refine⟨a,c,i,?_,e⟩
    by_cases hin:i=n
    ·subst hin;omega
    ·omega
theorem wordsT_all {P:List Int} {m:Nat→Nat} {M:Nat} {out:List Nat} (hs:∀i,out.getD i 0<256) (hm:∀n,n<M→0≤P.getD n 0→m n=wantN out (P.getD n 0)) (hP:∀n,n<M→0≤P.getD n 0→P.getD n 0<8*(out.length:Int))
 (hsur:∀z,z<8*out.length→∃i,i<M∧P.getD i 0=(z:Int)):wordsT P m out.length M=out:=by
 have hlen:=wordsT_len P m out.length M
 apply List.ext_getElem?
 intro w
 rcases Nat.lt_or_ge w out.length with hw|hw
 ·have e:(wordsT P m out.length M).getD w 0=out.getD w 0:=by
   apply Nat.eq_of_testBit_eq
   intro b
   rw[Bool.eq_iff_iff,wordsT_bits hm hP M (Nat.le_refl _) w hw b]
   constructor
   ·rintro⟨_,h,_⟩;exact h
   ·intro h
    have hb:b<8:=by
     rcases Nat.lt_or_ge b 8 with h1|h1
     ·exact h1
     ·rw[Nat.testBit_lt_two_pow (Nat.lt_of_lt_of_le (hs w) (by have:2^8≤2^b:=Nat.pow_le_pow_right (by decide) h1;omega))]at h
      cases h
    obtain⟨i,hi,e⟩:=hsur (8*w+(7-b)) (by omega)
    exact⟨hb,h,i,hi,e⟩
  rw[List.getD_eq_getElem?_getD,List.getD_eq_getElem?_getD,List.getElem?_eq_getElem (by omega),List.getElem?_eq_getElem hw,Option.getD_some,Option.getD_some]at e
  rw[List.getElem?_eq_getElem (by omega),List.getElem?_eq_getElem hw,e]
 ·rw[List.getElem?_eq_none (by omega),List.getElem?_eq_none hw]
end
section
open Go.RowKit
def edgeV (h w y x:Nat):Nat:=if x%w=0∨y%h=h-1 then 1 else if y%h=0 then 1-(x%w)%2 else if x%w=w-1 then(y%h)%2 else 0
def edgeIs (h w y x:Nat):Bool:=x%w==0||y%h==h-1||y%h==0||x%w==w-1
def hN (j:Nat):Nat:=syN j 0/syN j 2
def wN (j:Nat):Nat:=syN j 1/syN j 3
theorem reg_ok:∀j,j<29→((syN j 0:Nat):Int).tdiv (syN j 2:Nat)=(hN j:Nat)∧((syN j 1:Nat):Int).tdiv (syN j 3:Nat)=(wN j:Nat)∧0<syN j 2∧0<syN j 3∧8≤hN j∧hN j≤200∧8≤wN j∧wN j≤200∧syN j 0≤200∧syN j 1≤200∧syN j 2≤10∧syN j 3≤10:=by decide+kernel
set_option maxRecDepth 100000 in
set_option maxHeartbeats 4000000 in
theorem edge_calls {j y x:Nat} (hj:j<29) (hy:y≤1000) (hx:x≤1000) (w:World):
 Calls Tryz.prog 35 #[syV j,.int .i64 y,.int .i64 x] w fun e w'=>e= .returned (.tuple #[.int .u8 ((edgeV (hN j) (wN j) y x:Nat):Int),.bool (edgeIs (hN j) (wN j) y x)])∧Below w.heap.size w w':=by
 obtain⟨q1,q2,d1,d2,h1,h2,w1,w2,b1,b2,b3,b4⟩:=reg_ok j hj
 unfold syV
 generalize syN j 0=R at*
 generalize syN j 1=C at*
 generalize syN j 2=D at*
 generalize syN j 3=A at*
 generalize hN j=h at*
 generalize wN j=v at*
 have e1:(R:Int)/(D:Int)=(h:Int):=by rw[←q1,Int.tdiv_eq_ediv_of_nonneg (by omega)]
 have e2:(C:Int)/(A:Int)=(v:Int):=by rw[←q2,Int.tdiv_eq_ediv_of_nonneg (by omega)]
 have n1:¬(D:Int)=0:=by omega
 have n2:¬(A:Int)=0:=by omega
 have n3:¬(h:Int)=0:=by omega
 have n4:¬(v:Int)=0:=by omega
 have m1:((D:Int)==0)=false:=by rw[beq_eq_false_iff_ne];exact n1
 have m2:((A:Int)==0)=false:=by rw[beq_eq_false_iff_ne];exact n2
 obtain⟨yy,hyy⟩:∃yy,yy=y%h:=⟨_,rfl⟩
 obtain⟨xx,hxx⟩:∃xx,xx=x%v:=⟨_,rfl⟩
 have hyl:yy<h:=by rw[hyy];exact Nat.mod_lt _ (by omega)
 have hxl:xx<v:=by rw[hxx];exact Nat.mod_lt _ (by omega)
 have t1:(y:Int).tmod (h:Int)=(yy:Int):=by rw[Int.tmod_eq_emod_of_nonneg (by omega),hyy];simp
 have t2:(x:Int).tmod (v:Int)=(xx:Int):=by rw[Int.tmod_eq_emod_of_nonneg (by omega),hxx];simp
 have t3:(y:Int)%(h:Int)=(yy:Int):=by rw[hyy];simp
 have t4:(x:Int)%(v:Int)=(xx:Int):=by rw[hxx];simp
 have t5:(xx:Int).tmod 2=((xx%2:Nat):Int):=by rw[Int.tmod_eq_emod_of_nonneg (by omega)];simp
 have t6:(yy:Int).tmod 2=((yy%2:Nat):Int):=by rw[Int.tmod_eq_emod_of_nonneg (by omega)];simp
 obtain⟨ev,hev⟩:∃ev,ev=edgeV h v y x:=⟨_,rfl⟩
 obtain⟨ei,hei⟩:∃ei,ei=edgeIs h v y x:=⟨_,rfl⟩
 rw[←hev,←hei]
 unfold edgeV at hev
 unfold edgeIs at hei
 rw[←hyy,←hxx]at hev hei
 have HEV:=Lib.hid hev
 have HEI:=Lib.hid hei
 have HB:=Lib.hid (show Below w.heap.size w (w.alloc (.cells #[.int .i64 R,.int .i64 C,.int .i64 D,.int .i64 A,.int .i64 (syN j 4),.int .i64 (syN j 5),.int .i64 (syN j 6)] 30))from(Below.refl _ _).alloc (Nat.le_refl _) _)
 obtain⟨l0,l1,l2,l3,l4,l5,l6⟩:=cells7 (new_last (w:=w) rfl (.cells #[.int .i64 R,.int .i64 C,.int .i64 D,.int .i64 A,.int .i64 (syN j 4),.int .i64 (syN j 5),.int .i64 (syN j 6)] 30))
 clear hev hei hyy hxx
 have hhb:(h:Int)≤200∧8≤(h:Int):=by omega
 have hvb:(v:Int)≤200∧8≤(v:Int):=by omega
 go_enter Tryz.func35,Tryz.ntmps35
 go_wp2
 go_quiet (fail)
 go_wp2
 go_quiet (fail)
 clear t1 t2 t3 t4 q1 q2 e1 e2 l0 l1 l2 l3 l4 l5 l6 n1 n2 n3 n4 m1 m2
 by_cases c1:xx=0
 ·have k1:((xx:Int)==0)=true:=by rw[beq_iff_eq];omega
  have r1:ev=1:=by rw[HEV.out,if_pos (Or.inl c1)]
  have r2:ei=true:=by rw[HEI.out,c1];rfl
  subst r1 r2 c1
  go_wp2
  go_ret2
  exact⟨rfl,below_dr HB.out _⟩
 ·have k1:((xx:Int)==0)=false:=by rw[beq_eq_false_iff_ne];omega
  have n1:¬(xx:Int)=0:=by omega
  by_cases c2:yy=h-1
  ·have k2:((yy:Int)==(h:Int)-1)=true:=by rw[beq_iff_eq];omega
   have r1:ev=1:=by rw[HEV.out,if_pos (Or.inr c2)]
   have r2:ei=true:=by rw[HEI.out];simp[c2]
   subst r1 r2
   clear c2
   go_wp2
   go_ret2
   exact⟨rfl,below_dr HB.out _⟩
  ·have k2:((yy:Int)==(h:Int)-1)=false:=by rw[beq_eq_false_iff_ne];omega
   have n2:¬(yy:Int)=(h:Int)-1:=by omega
   by_cases c3:yy=0
   ·have r1:ev=1-xx%2:=by rw[HEV.out,if_neg (by omega),if_pos c3]
    have r2:ei=true:=by rw[HEI.out];simp[c3]
    have r3:(1:Int)-((xx%2:Nat):Int)=(ev:Int):=by omega
    have r4:(ev:Int)≤1:=by omega
    have R3:=Lib.hid r3
    subst r2
    have k3:((yy:Int)==0)=true:=by rw[beq_iff_eq];omega
    clear c2 c3 r1 r3
    go_wp2
    go_ret2
    exact⟨by rw[←R3.out];simp,below_dr HB.out _⟩
   ·have k3:((yy:Int)==0)=false:=by rw[beq_eq_false_iff_ne];omega
    have n3:¬(yy:Int)=0:=by omega
    by_cases c4:xx=v-1
    ·have r1:ev=yy%2:=by rw[HEV.out,if_neg (by omega),if_neg c3,if_pos c4]
     have r2:ei=true:=by rw[HEI.out];simp[c4]
     have R3:=Lib.hid r1
     subst r2
     have k4:((xx:Int)==(v:Int)-1)=true:=by rw[beq_iff_eq];omega
     clear c2 c3 c4 r1
     go_wp2
     go_ret2
     exact⟨by rw[R3.out];simp,below_dr HB.out _⟩
    ·have r1:ev=0:=by rw[HEV.out,if_neg (by omega),if_neg c3,if_neg c4]
     have r2:ei=false:=by rw[HEI.out];simp[c1,c2,c3,c4]
     subst r1 r2
     have k4:((xx:Int)==(v:Int)-1)=false:=by rw[beq_eq_false_iff_ne];omega
     have n4:¬(xx:Int)=(v:Int)-1:=by omega
     clear c2 c3 c4
     go_wp2
     go_ret2
     exact⟨rfl,below_dr HB.out _⟩
def whN (h y:Nat):Nat:=y+1+2*(y/h)
theorem reg2_ok:∀j,j<29→((inR0 j:Nat):Int).tdiv (syN j 2:Nat)=((hN j-2:Nat):Int)∧((inC0 j:Nat):Int).tdiv (syN j 3:Nat)=((wN j-2:Nat):Int)∧inR0 j≤200∧inC0 j≤200:=by decide+kernel
set_option maxRecDepth 100000 in
set_option maxHeartbeats 4000000 in
theorem where_calls {j y x:Nat} (hj:j<29) (hy:y≤1000) (hx:x≤1000) (w:World):
 Calls Tryz.prog 36 #[syV j,.int .i64 y,.int .i64 x] w fun e w'=>e= .returned (.tuple #[.int .i64 ((whN (hN j-2) y:Nat):Int),.int .i64 ((whN (wN j-2) x:Nat):Int)])∧Below w.heap.size w w':=by
 obtain⟨q1,q2,d1,d2,h1,h2,w1,w2,b1,b2,b3,b4⟩:=reg_ok j hj
 obtain⟨p1,p2,p3,p4⟩:=reg2_ok j hj
 have IN:=Lib.hid (fun w=>inner_calls hj w)
 have HB:=Lib.hid (show Below w.heap.size w (w.alloc (.cells #[.int .i64 (syN j 0),.int .i64 (syN j 1),.int .i64 (syN j 2),.int .i64 (syN j 3),.int .i64 (syN j 4),.int .i64 (syN j 5),.int .i64 (syN j 6)] 30))from(Below.refl _ _).alloc (Nat.le_refl _) _)
 have HL:=Lib.hid (new_last (w:=w) rfl (.cells #[.int .i64 (syN j 0),.int .i64 (syN j 1),.int .i64 (syN j 2),.int .i64 (syN j 3),.int .i64 (syN j 4),.int .i64 (syN j 5),.int .i64 (syN j 6)] 30))
 obtain⟨h,hh⟩:∃h,h=hN j-2:=⟨_,rfl⟩
 obtain⟨v,hv⟩:∃v,v=wN j-2:=⟨_,rfl⟩
 rw[←hh]at p1 ⊢
 rw[←hv]at p2 ⊢
 have z1:(inR0 j:Int)/(syN j 2:Int)=(h:Int):=by rw[←p1,Int.tdiv_eq_ediv_of_nonneg (by omega)]
 have z2:(inC0 j:Int)/(syN j 3:Int)=(v:Int):=by rw[←p2,Int.tdiv_eq_ediv_of_nonneg (by omega)]
 have hh6:6≤h∧h≤200∧6≤v∧v≤200:=by omega
 obtain⟨a,ha⟩:∃a,a=y/h:=⟨_,rfl⟩
 obtain⟨b,hb⟩:∃b,b=x/v:=⟨_,rfl⟩
 have a1:(y:Int).tdiv (h:Int)=(a:Int):=by rw[Int.tdiv_eq_ediv_of_nonneg (by omega),ha];simp
 have a2:(x:Int).tdiv (v:Int)=(b:Int):=by rw[Int.tdiv_eq_ediv_of_nonneg (by omega),hb];simp
 have a3:(y:Int)/(h:Int)=(a:Int):=by rw[ha];simp
 have a4:(x:Int)/(v:Int)=(b:Int):=by rw[hb];simp
 have ab:a≤y∧b≤x:=by rw[ha,hb];exact⟨Nat.div_le_self _ _,Nat.div_le_self _ _⟩
 have r1:((whN h y:Nat):Int)=(y:Int)+1+2*(a:Int):=by unfold whN;rw[←ha];omega
 have r2:((whN v x:Nat):Int)=(x:Int)+1+2*(b:Int):=by unfold whN;rw[←hb];omega
 rw[r1,r2]
 have n1:¬(syN j 2:Int)=0:=by omega
 have n2:¬(syN j 3:Int)=0:=by omega
 have n3:¬(h:Int)=0:=by omega
 have n4:¬(v:Int)=0:=by omega
 have i1:IntKind.i64.wrap ((y:Int)+1)=(y:Int)+1:=IntWalk.i64_in _ (by omega)
 have i2:IntKind.i64.wrap (2*(a:Int))=2*(a:Int):=IntWalk.i64_in _ (by omega)
 have i3:IntKind.i64.wrap ((y:Int)+1+2*(a:Int))=(y:Int)+1+2*(a:Int):=IntWalk.i64_in _ (by omega)
 have i4:IntKind.i64.wrap ((x:Int)+1)=(x:Int)+1:=IntWalk.i64_in _ (by omega)
 have i5:IntKind.i64.wrap (2*(b:Int))=2*(b:Int):=IntWalk.i64_in _ (by omega)
 have i6:IntKind.i64.wrap ((x:Int)+1+2*(b:Int))=(x:Int)+1+2*(b:Int):=IntWalk.i64_in _ (by omega)
 unfold syV at IN ⊢
 clear q1 q2 ha hb hh hv r1 r2
 generalize syN j 0=R at*
 generalize syN j 1=C at*
 generalize syN j 2=D at*
 generalize syN j 3=A at*
 generalize inR0 j=R0 at*
 generalize inC0 j=C0 at*
 go_enter Tryz.func36,Tryz.ntmps36
 go_wp2_with (go_at_call 48;refine(IN.out _).mono ?_;rintro e w3 ⟨rfl,hb3⟩;have HB3:=Lib.hid (HB.out.trans (hb3.mono HB.out.size));obtain⟨l0,l1,l2,l3,l4,l5,l6⟩:=cells7 ((hb3.block _ (by simp)).trans HL.out);clear hb3)
 go_quiet (fail)
 go_wp2
 go_quiet (fail)
 go_wp2
 go_ret2
 exact⟨rfl,below_dr (below_dr HB3.out _) _⟩
end
section
open Go.RowKit
theorem bit_b2i (b:Bool):bitN (b2i b==1)=bitN b:=by cases b<;>rfl
theorem bit_pix (z:Int):bitN (b2i (z==1)==1)=pixN z:=by rw[bit_b2i];rfl
theorem mod_even {x m:Nat} (h:m%2=0) (h0:0<m):x%m%2=x%2:=Nat.mod_mod_of_dvd x (Nat.dvd_of_mod_eq_zero h)
theorem edge_mod {mh mw dw y x:Nat} {bits:List Int} (e1:mh%2=0) (e2:mw%2=0) (h1:6≤mh) (h2:6≤mw) (hi:edgeIs (mh+2) (mw+2) y x=true):bitN (modT mw mh dw bits y x==1)=edgeV (mh+2) (mw+2) y x:=by
 have p1:x%(mw+2)%2=x%2:=mod_even (by omega) (by omega)
 have hx:=Nat.mod_lt x (show 0<mw+2 by omega)
 have hy:=Nat.mod_lt y (show 0<mh+2 by omega)
 have p2:(y/(mh+2)*mh+(y%(mh+2)-1))%2=(y%(mh+2)-1)%2:=by
  obtain⟨c,hc⟩:∃c,mh=2*c:=⟨mh/2,by omega⟩
  have:y/(mh+2)*mh=2*(y/(mh+2)*c):=by rw[hc,←Nat.mul_assoc,Nat.mul_comm _ 2,Nat.mul_assoc]
  omega
 have hp:∀n:Nat,(((n:Int)%2==0)=true↔n%2=0):=fun n=>by rw[beq_iff_eq];omega
 have hb:∀(n e:Nat),(e=if n%2=0 then 1 else 0)→bitN (b2i ((n:Int)%2==0)==1)=e:=fun n e he=>by
  rw[bit_b2i,he]
  by_cases hn:n%2=0
  ·rw[(hp n).2 hn,if_pos hn];rfl
  ·have:((n:Int)%2==0)=false:=by
    rcases hq:((n:Int)%2==0)with _|_
    ·rfl
    ·exact absurd ((hp n).1 hq) hn
   rw[this,if_neg hn];rfl
 unfold edgeV modT
 unfold edgeIs at hi
 simp only[Bool.or_eq_true,beq_iff_eq]at hi
 generalize x%(mw+2)=xx at*
 generalize hyy:y%(mh+2)=yy at*
 by_cases c1:yy=0
 ·rw[if_pos c1]
  refine hb x _ ?_
  by_cases c2:xx=0
  ·rw[if_pos (Or.inl c2),if_pos (by omega)]
  ·rw[if_neg (by omega),if_pos c1]
   split<;>omega
 ·rw[if_neg c1]
  by_cases c2:yy=mh+1
  ·rw[if_pos c2,if_pos (Or.inr (by omega))];rfl
  ·rw[if_neg c2]
   by_cases c3:xx=0
   ·rw[if_pos c3,if_pos (Or.inl c3)];rfl
   ·rw[if_neg c3]
    by_cases c4:xx=mw+1
    ·rw[if_pos c4,if_neg (by omega),if_neg c1,if_pos (by omega)]
     refine hb _ _ ?_
     rw[p2]
     split<;>omega
    ·omega
theorem wh_split {m y:Nat} (hm:0<m):whN m y/(m+2)=y/m∧whN m y%(m+2)=y%m+1:=by
 have h1:=Nat.div_add_mod y m
 have h2:=Nat.mod_lt y hm
 have e:whN m y=(m+2)*(y/m)+(y%m+1):=by
  unfold whN;rw[Nat.add_mul];omega
 have hlt:y%m+1<m+2:=by omega
 rw[e]
 refine⟨?_,?_⟩
 ·rw[Nat.mul_add_div (show 0<m+2 by omega),Nat.div_eq_of_lt hlt,Nat.add_zero]
 ·rw[Nat.mul_add_mod,Nat.mod_eq_of_lt hlt]
theorem where_mod {mh mw dw y x:Nat} {bits:List Int} (h1:0<mh) (h2:0<mw):bitN (modT mw mh dw bits (whN mh y) (whN mw x)==1)=pixN (bits.getD (y*dw+x) 0):=by
 obtain⟨a1,a2⟩:=wh_split (y:=y) h1
 obtain⟨b1,b2⟩:=wh_split (y:=x) h2
 have c1:=Nat.mod_lt y h1
 have c2:=Nat.mod_lt x h2
 have d1:=Nat.div_add_mod y mh
 have d2:=Nat.div_add_mod x mw
 rw[Nat.mul_comm]at d1 d2
 unfold modT
 rw[a2,b2,a1,b1,if_neg (by omega),if_neg (by omega),if_neg (by omega),if_neg (by omega),Nat.add_sub_cancel,Nat.add_sub_cancel,d1,d2]
 exact bit_pix _
theorem wh_lt {m n y:Nat} (hm:0<m) (h:y<n*m):whN m y<n*(m+2):=by
 have h1:=Nat.div_add_mod y m
 have h2:=Nat.mod_lt y hm
 have h3:y/m<n:=Nat.div_lt_of_lt_mul (by rw[Nat.mul_comm];exact h)
 have e:whN m y=(m+2)*(y/m)+(y%m+1):=by
  unfold whN;rw[Nat.add_mul];omega
 have h4:(m+2)*(y/m+1)≤(m+2)*n:=Nat.mul_le_mul_left _ h3
 rw[Nat.mul_add,Nat.mul_one]at h4
 rw[e,Nat.mul_comm n]
 omega
theorem sz_apart:∀j,j<29→∀k,k<j→((syN k 0:Int)==(syN j 0:Int))=false∨(((syN k 0:Int)==(syN j 0:Int))=true∧((syN k 1:Int)==(syN j 1:Int))=false):=by decide+kernel
set_option maxRecDepth 100000 in
set_option maxHeartbeats 4000000 in
theorem sized_calls {j:Nat} (hj:j<29) (w:World):Calls Tryz.prog 34 #[.int .i64 (syN j 0),.int .i64 (syN j 1)] w fun e w'=>e= .returned (.tuple #[syV j,.bool true])∧Below w.heap.size w w':=by
 have HSA:=Lib.hid (sz_apart j hj)
 go_enter Tryz.func34,Tryz.ntmps34
 go_wp2_with (first|(go_at_call 17;refine(spSyms_calls _).mono ?_;rintro e w1 ⟨rfl,hr,hb,hz⟩))
 have hb5:w1.heap[w.heap.size]? =some (.cells #[.int .i64 0,.int .i64 0,.int .i64 0,.int .i64 0,.int .i64 0,.int .i64 0,.int .i64 0] 30):=(hb.block _ (by simp)).trans (new_last rfl _)
 have hbw:Below w.heap.size w w1:=((Below.refl _ _).alloc (Nat.le_refl _) _).trans (hb.mono (by simp))
 have hr2:Row w1 (w.heap.size+1) .i64 30 syInts:=by simpa using hr
 have HR:=Lib.hid hr2
 have H5:=Lib.hid hb5
 have HBW:=Lib.hid hbw
 clear hr hr2 hb5 hbw hb hz
 go_loopw [10] (fun i wr=>∃k:Nat,k≤j∧i= .int .i64 k∧Hid (wr.heap[w.heap.size]? =some (.cells #[.int .i64 0,.int .i64 0,.int .i64 0,.int .i64 0,.int .i64 0,.int .i64 0,.int .i64 0] 30))∧Hid (Row wr (w.heap.size+1) .i64 30 syInts)∧Hid (Below w.heap.size w wr)) (fun i _=>29-(intOf i).toNat)
 case atStart=>exact⟨0,by omega,rfl,H5,HR,HBW⟩
 case round=>
  clear H5 HR HBW
  obtain⟨k,hk,rfl,h5,hr,hbw⟩:=hrel
  have hlt:k<29:=by omega
  have hki:(k:Int)<29:=by omega
  have c0:wr.cell? ⟨w.heap.size+1,k*7,none⟩=some (.int .i64 (syN k 0)):=sy_cell hr.out hlt 0 (by omega)
  have c1:=sy_cell hr.out hlt 1 (by omega)
  have c2:=sy_cell hr.out hlt 2 (by omega)
  have c3:=sy_cell hr.out hlt 3 (by omega)
  have c4:=sy_cell hr.out hlt 4 (by omega)
  have c5:=sy_cell hr.out hlt 5 (by omega)
  have c6:=sy_cell hr.out hlt 6 (by omega)
  by_cases hkj:k<j
  ·have hne:=HSA.out k hkj
   have keep:=fun o=>And.intro ((Below.heap_alloc wr o _ (lt_of_blk h5.out)).trans h5.out) (And.intro (hr.out.alloc o) (hbw.out.alloc hbw.out.size o))
   have HK:=Lib.hid keep
   clear keep
   generalize syN j 0=J0 at*
   generalize syN j 1=J1 at*
   rcases hne with e1|⟨e1,e2⟩
   ·have n1:¬(syN k 0:Int)=(J0:Int):=beq_eq_false_iff_ne.1 e1
    go_wp2
    exact⟨⟨k+1,by omega,by go_num,(HK.out _).1,(HK.out _).2.1,(HK.out _).2.2⟩,by simp[intOf];omega⟩
   ·have n2:¬(syN k 1:Int)=(J1:Int):=beq_eq_false_iff_ne.1 e2
    go_wp2
    exact⟨⟨k+1,by omega,by go_num,(HK.out _).1,(HK.out _).2.1,(HK.out _).2.2⟩,by simp[intOf];omega⟩
  ·obtain rfl:k=j:=by omega
   obtain⟨l0,l1,l2,l3,l4,l5,l6⟩:=cells7 h5.out
   obtain⟨f0,f1,f2,f3,f4,f5,f6⟩:=free7 h5.out
   have hz3:w.heap.size<wr.heap.size:=lt_of_blk h5.out
   have hz4:¬w.heap.size=wr.heap.size:=by omega
   go_wp2
   have hst:=set7 (o:=none) (w:=wr) (b:=w.heap.size) h5.out (.int .i64 (syN k 0)) (.int .i64 (syN k 1)) (.int .i64 (syN k 2)) (.int .i64 (syN k 3)) (.int .i64 (syN k 4)) (.int .i64 (syN k 5)) (.int .i64 (syN k 6))
   have hbl:=below7 (B:=w.heap.size) hbw.out (.int .i64 (syN k 0)) (.int .i64 (syN k 1)) (.int .i64 (syN k 2)) (.int .i64 (syN k 3)) (.int .i64 (syN k 4)) (.int .i64 (syN k 5)) (.int .i64 (syN k 6))
   clear l0 l1 l2 l3 l4 l5 l6 f0 f1 f2 f3 f4 f5 f6
   generalize (((((((wr.setCell ⟨w.heap.size,0,none⟩ (.int .i64 (syN k 0))).setCell ⟨w.heap.size,1,none⟩ (.int .i64 (syN k 1))).setCell ⟨w.heap.size,2,none⟩ (.int .i64 (syN k 2))).setCell ⟨w.heap.size,3,none⟩ (.int .i64 (syN k 3))).setCell ⟨w.heap.size,4,none⟩ (.int .i64 (syN k 4))).setCell ⟨w.heap.size,5,none⟩ (.int .i64 (syN k 5))).setCell ⟨w.heap.size,6,none⟩ (.int .i64 (syN k 6)))=w9 at*
   obtain⟨l0,l1,l2,l3,l4,l5,l6⟩:=cells7 ((Below.heap_alloc w9 (.cells #[.int .i64 (syN k 0),.int .i64 (syN k 1),.int .i64 (syN k 2),.int .i64 (syN k 3),.int .i64 (syN k 4),.int .i64 (syN k 5),.int .i64 (syN k 6)] 30) _ (lt_of_blk hst)).trans hst)
   refine bodyPost_ret (v:= .tuple #[syV k,.bool true]) ?_ rfl ⟨rfl,hbl.alloc hbl.size _⟩
   simp[results,Tryz.results34,go_sem,syV,l0,l1,l2,l3,l4,l5,l6]
theorem bitN_le (b:Bool):bitN b≤1:=by cases b<;>decide
set_option maxRecDepth 100000 in
set_option maxHeartbeats 4000000 in
theorem binary_calls {w:World} {base sw sh gv cv:Nat} {gs:List (Nat×Nat)} {T:Nat→Nat→Int} (h:RowsM w base (.slice (some ⟨gv,0,none⟩) sh cv) gs (matT sw sh T)) (h1:sw≤1000) (h2:sh≤1000):
 Calls Tryz.prog 11 #[.slice (some ⟨gv,0,none⟩) sh cv] w fun e w'=>e= .returned (.bool true)∧w'=w:=by
 have HA:=Lib.hid (fun y (hy:y<sh)=>h.at rfl hy)
 clear h
 go_enter Tryz.func11,Tryz.ntmps11
 go_wp2
 go_loopw [9] (fun i wr=>∃y:Nat,y≤sh∧i= .int .i64 y∧wr=w) (fun i _=>sh-(intOf i).toNat)
 case atStart=>exact⟨0,by omega,rfl,rfl⟩
 case round=>
  obtain⟨y,hy,rfl,rfl⟩:=hrel
  by_cases hlt:y<sh
  ·obtain⟨g,cap,hc,hr⟩:=HA.out y hlt
   have HR:=Lib.hid hr
   clear hr
   have hyi:(y:Int)<(sh:Int):=by omega
   go_wp2
   obtain⟨wo,rfl⟩:∃wo:World,wo=wr:=⟨_,rfl⟩
   go_loopw [15] (fun i wr=>∃x:Nat,x≤sw∧i= .int .i64 x∧wr=wo) (fun i _=>sw-(intOf i).toNat)
   case atStart=>exact⟨0,by omega,rfl,rfl⟩
   case round=>
    obtain⟨x,hx,rfl,rfl⟩:=hrel
    by_cases hxl:x<sw
    ·have hxi:(x:Int)<(sw:Int):=by omega
     have hcx:=HR.out x hxl
     have hb:=bitN_le (T y x==1)
     generalize bitN (T y x==1)=z at*
     have hzz:¬(z:Int)>1:=by omega
     go_wp2
     exact⟨⟨x+1,by omega,by go_num,trivial⟩,by simp[intOf];omega⟩
    ·have hxi:¬(x:Int)<(sw:Int):=by omega
     go_wp2
     exact⟨⟨y+1,by omega,by go_num,trivial⟩,by simp[intOf];omega⟩
  ·have hyi:¬(y:Int)<(sh:Int):=by omega
   go_wp2
   go_ret
   exact⟨rfl,rfl⟩
end
end Go.Proofs.YtcnallabiffemaaGreatDoor
