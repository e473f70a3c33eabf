/- The walk of the writer's painting. -/
import Derived.Test.YtcnallabiffemaaGreatDoorZf
set_option linter.unusedVariables false
set_option linter.unusedSimpArgs false
namespace Go.Proofs.YtcnallabiffemaaGreatDoor
open Go.RowKit
theorem swN_calls (b i:Nat) (w:World) {sw:Nat} (hi:i<30) (hs:swOf i=(sw:Int)) (h:w.heap[b]? =some (.cells (siOf i) 112)):
 Calls Tryz.prog 44 #[.pointer (some ⟨b,0,none⟩)] w fun e w'=>e= .returned (.int .i64 (sw:Int))∧∃n,w'=w.drewN n:=hs▸sw_calls b i w hi h
theorem shN_calls (b i:Nat) (w:World) {sw:Nat} (hi:i<30) (hs:shOf i=(sw:Int)) (h:w.heap[b]? =some (.cells (siOf i) 112)):
 Calls Tryz.prog 43 #[.pointer (some ⟨b,0,none⟩)] w fun e w'=>e= .returned (.int .i64 (sw:Int))∧∃n,w'=w.drewN n:=hs▸sh_calls b i w hi h
theorem dwN_calls (b i:Nat) (w:World) {sw:Nat} (hi:i<30) (hs:dwOf i=(sw:Int)) (h:w.heap[b]? =some (.cells (siOf i) 112)):
 Calls Tryz.prog 63 #[.pointer (some ⟨b,0,none⟩)] w fun e w'=>e= .returned (.int .i64 (sw:Int))∧∃n,w'=w.drewN n:=hs▸dw_calls b i w hi h
theorem dhN_calls (b i:Nat) (w:World) {sw:Nat} (hi:i<30) (hs:dhOf i=(sw:Int)) (h:w.heap[b]? =some (.cells (siOf i) 112)):
 Calls Tryz.prog 64 #[.pointer (some ⟨b,0,none⟩)] w fun e w'=>e= .returned (.int .i64 (sw:Int))∧∃n,w'=w.drewN n:=hs▸dh_calls b i w hi h
theorem mwN_calls (b i:Nat) (w:World) {mw:Nat} (hs:mwOf i=(mw:Int)) (h:w.heap[b]? =some (.cells (siOf i) 112)):
 Calls Tryz.prog 118 #[.pointer (some ⟨b,0,none⟩)] w fun e w'=>e= .returned (.int .i64 (mw:Int))∧w'=w:=hs▸mwget_calls b i w h
theorem mhN_calls (b i:Nat) (w:World) {mw:Nat} (hs:mhOf i=(mw:Int)) (h:w.heap[b]? =some (.cells (siOf i) 112)):
 Calls Tryz.prog 116 #[.pointer (some ⟨b,0,none⟩)] w fun e w'=>e= .returned (.int .i64 (mw:Int))∧w'=w:=hs▸mhget_calls b i w h
def LowPost (sw sh:Nat) (T:Nat→Nat→Int) (w:World) (e:Ending) (w':World):Prop:=
 ∃b bits,w.heap.size≤b∧e= .returned (.pointer (some ⟨b,0,none⟩))∧BitM w' b sw sh bits∧Small32 bits∧(∀X Y,X<sw→Y<sh→pixel sw bits X Y=(T Y X==1))∧Below w.heap.size w w'
set_option maxRecDepth 100000 in
set_option maxHeartbeats 40000000 in
theorem low_calls {w0 w:World} {b bb cb cap s i mw mh nw nh nv sw sh dw dh:Nat} {cw:List Nat} {bits:List Int} (HP0:PMem w0 w b bb cb cap dh dw cw bits) (hi:i<30)
 (hs:w.heap[s]? =some (.cells (siOf i) 112)) (hb0:w0.heap.size≤w.heap.size) (hb1:b<w.heap.size) (hb2:bb<w.heap.size) (hb3:cb<w.heap.size)
 (hmw:mwOf i=(mw:Int)) (hmh:mhOf i=(mh:Int)) (hdw:dwOf i=(dw:Int)) (hdh:dhOf i=(dh:Int)) (hsw:swOf i=(sw:Int)) (hsh:shOf i=(sh:Int))
 (qdw:dw=nh*mw) (qdh:dh=nv*mh) (qsw:sw=nh*(mw+2)) (qsh:sh=nv*(mh+2)) (hmw6:6≤mw) (hmh6:6≤mh) (hmw24:mw≤24) (hmh24:mh≤24)
 (hsw0:1≤sw) (hsh0:1≤sh) (hsw1:sw≤1000) (hsh1:sh≤1000):
 Calls Tryz.prog 65 #[.pointer (some ⟨b,0,none⟩),.pointer (some ⟨s,0,none⟩),.int .i64 0,.int .i64 0] w (LowPost sw sh (modT mw mh dw bits) w):=by
 have hdw1:=HP0.c1
 have hdh1:=HP0.r1
 have hmw0:0<mw:=by omega
 have hmh0:0<mh:=by omega
 have hss:s<w.heap.size:=lt_of_some hs
 have hsi:∀wx:World,Below w.heap.size w wx→wx.heap[s]? =some (.cells (siOf i) 112):=fun wx hx=>(hx.block s hss).trans hs
 have hsid:∀n,(w.drewN n).heap[s]? =some (.cells (siOf i) 112):=fun n=>hs
 have HP:=Lib.hid HP0
 have HB0:=Lib.hid hb0
 have HB1:=Lib.hid hb1
 have HB2:=Lib.hid hb2
 have HB3:=Lib.hid hb3
 have HDW:=Lib.hid qdw
 have HDH:=Lib.hid qdh
 have HSW:=Lib.hid qsw
 have HSH:=Lib.hid qsh
 obtain⟨T,hT⟩:∃T,T=modT mw mh dw bits:=⟨_,rfl⟩
 rw[←hT]
 have HT:=Lib.hid hT
 have HS:=Lib.hid hs
 clear HP0 hb0 hb1 hb2 hb3 qdw qdh qsw qsh hT hs
 go_enter Tryz.func65,Tryz.ntmps65
 go_wp2_with (first|(go_at_call 63;refine(dwN_calls s i _ hi hdw HS.out).mono ?_;rintro e w' ⟨rfl,n1,rfl⟩)|(go_at_call 64;refine(dhN_calls s i _ hi hdh (hsid _)).mono ?_;rintro e w' ⟨rfl,n2,rfl⟩)|(go_at_call 44;refine(swN_calls s i _ hi hsw (hsid _)).mono ?_;rintro e w' ⟨rfl,n3,rfl⟩)|(go_at_call 43;refine(shN_calls s i _ hi hsh (hsid _)).mono ?_;rintro e w' ⟨rfl,n4,rfl⟩)|(go_at_call 115;refine(newBM_calls sw sh hsw1 hsh1 _).mono ?_;rintro e wm ⟨rfl,hbm,hbl,hz⟩;have g:=Lib.hid (start_paint (T:=T) hbm hbl);clear hbm hbl hz))
 go_loopw [12,13] (fun c i wr=>∃y:Nat,y≤dh∧i= .int .i64 y∧c= .int .i64 (start mh y:Nat)∧∃M,Hid (Paint w wr w.heap.size sw sh T (start mh y) 0 M)) (fun _ i _=>dh-(intOf i).toNat)
 case atStart=>exact⟨0,by omega,rfl,by rw[start_zero];rfl,_,by rw[start_zero];exact g⟩
 case round=>
  clear g
  obtain⟨y,hy,rfl,rfl,M,g⟩:=hrel
  by_cases hlt:y<dh
  ·obtain⟨p,hp⟩:∃p,p=spot mh y:=⟨_,rfl⟩
   have hps:p+2<sh:=by rw[hp,HSH.out];exact spot_lt hmh0 (by rw[←HDH.out];exact hlt)
   have hml:=Nat.mod_lt y hmh0
   have HPP:=Lib.hid hp
   clear hp
   rcases(by omega:y%mh=0∨(y%mh≠0∧y%mh≠mh-1)∨y%mh=mh-1)with hd|hd|hd
   ·have TT:=Lib.hid (fun X=>modT_top (mw:=mw) (dw:=dw) (bits:=bits) hmh0 hd X)
    rw[←HPP.out,←HT.out]at TT
    have e1:start mh y=p:=by unfold start;rw[if_pos hd,HPP.out];rfl
    have e2:=start_next hmh0 (y:=y) (by omega)
    rw[←HPP.out]at e2
    have YE:=Lib.hid e2
    have s1:((y:Int)%(mh:Int)==0)=true:=by rw[beq_iff_eq];omega
    have s2:((y:Int)%(mh:Int)==(mh:Int)-1)=false:=by rw[beq_eq_false_iff_ne];omega
    rw[e1]at g ⊢
    clear hd e1 e2
    go_wp2_with (first|(go_at_call 116;refine(mhN_calls s i _ hmh (hsi _ g.out.below)).mono ?_;rintro e w' ⟨rfl,rfl⟩))
    go_loopw [14,15] (fun c i wr=>∃x:Nat,x≤sw∧c= .int .i64 x∧i= .int .i64 x∧∃M,Hid (Paint w wr w.heap.size sw sh T p x M)) (fun _ i _=>sw-(intOf i).toNat)
    case atStart=>exact⟨0,by omega,rfl,rfl,_,g⟩
    case round=>
     clear g
     obtain⟨x,hx,rfl,rfl,M,g⟩:=hrel
     by_cases hltx:x<sw
     ·go_wp2_with (first|(go_at_call 44;refine(swN_calls s i _ hi hsw (hsi _ g.out.below)).mono ?_;rintro e w' ⟨rfl,nd,rfl⟩;have g:=Lib.hid (g.out.drewN nd))|(go_at_call 117;refine(setI g.out _ _ _ (by go_num) (by go_num) (by omega) (by omega) hsw1 hsh1 (by exact TT.out x)).mono ?_;rintro e wn ⟨rfl,M,gn⟩;have g:=Lib.hid gn;clear gn))
      exact⟨⟨x+1,by omega,by go_num,by go_num,_,g⟩,by simp[intOf];omega⟩
     ·obtain rfl:sw=x:=by omega
      have g:=Lib.hid g.out.row
      go_wp2_with (first|(go_at_call 44;refine(swN_calls s i _ hi hsw (hsi _ g.out.below)).mono ?_;rintro e w' ⟨rfl,nd,rfl⟩;have g:=Lib.hid (g.out.drewN nd)))
      go_loopw [14,16] (fun c i wr=>∃x:Nat,x≤dw∧i= .int .i64 x∧c= .int .i64 (start mw x:Nat)∧∃M,Hid (Paint w wr w.heap.size sw sh T (p+1) (start mw x) M)) (fun _ i _=>dw-(intOf i).toNat)
      case atStart=>exact⟨0,by omega,rfl,by rw[start_zero];rfl,_,by rw[start_zero];exact g⟩
      case round=>
       clear g
       obtain⟨x,hx,rfl,rfl,M,g⟩:=hrel
       by_cases hltx:x<dw
       ·obtain⟨q,hq⟩:∃q,q=spot mw x:=⟨_,rfl⟩
        have hpos:=Lib.hid (show (y:Int)*(dw:Int)+(x:Int)=((y*dw+x:Nat):Int) by simp)
        have hposl:=Lib.hid (show y*dw+x<bits.length by rw[HP.out.len];have:=Nat.mul_le_mul_right dw (Nat.succ_le_of_lt hlt);rw[Nat.succ_mul]at this;omega)
        have hqs:q+2<sw:=by rw[hq,HSW.out];exact spot_lt hmw0 (by rw[←HDW.out];exact hltx)
        have TM:=Lib.hid (modT_mid (dw:=dw) (bits:=bits) hmw0 hmh0 y x)
        rw[←hq,←HPP.out,←HT.out]at TM
        have hml:=Nat.mod_lt x hmw0
        rcases(by omega:x%mw=0∨(x%mw≠0∧x%mw≠mw-1)∨x%mw=mw-1)with hc|hc|hc
        ·have TL:=Lib.hid (modT_left (dw:=dw) (bits:=bits) hmw0 hmh0 y hc)
         rw[←hq,←HPP.out,←HT.out]at TL
         have e1:start mw x=q:=by unfold start;rw[if_pos hc,hq];rfl
         have e2:=start_next hmw0 (y:=x) (by omega)
         rw[←hq]at e2
         have t1:((x:Int)%(mw:Int)==0)=true:=by rw[beq_iff_eq];omega
         have t2:((x:Int)%(mw:Int)==(mw:Int)-1)=false:=by rw[beq_eq_false_iff_ne];omega
         rw[e1]at g ⊢
         have E2:=Lib.hid e2
         clear hc hq e1 e2
         go_wp2_with (first|(go_at_call 118;refine(mwN_calls s i _ hmw (hsi _ g.out.below)).mono ?_;rintro e w' ⟨rfl,rfl⟩)|(go_at_call 117;refine(setI g.out _ _ _ (by go_num) (by go_num) (by omega) (by omega) hsw1 hsh1 (by first|(exact TL.out)|(exact TM.out))).mono ?_;rintro e wn ⟨rfl,M,gn⟩;have g:=Lib.hid gn;clear gn)|(go_at_call 56;refine(getBit_calls (HP.out.below' g.out.below HB0.out HB1.out HB2.out HB3.out) _ _ (y*dw+x) (by omega) (by omega) (by omega) (by omega) hpos.out hposl.out).mono ?_;rintro e w' ⟨rfl,nd,rfl⟩;have g:=Lib.hid (g.out.drewN nd)))
         go_quiet ((go_at_call 118;exact Calls.quiet_of_same (mwN_calls s i _ hmw (hsi _ (below_dr g.out.below _)))))
         go_wp2
         have g:=Lib.hid (g.out.drewN nq)
         exact⟨⟨x+1,by omega,by go_num,by rw[E2.out];go_num,_,by rw[E2.out];exact g⟩,by simp[intOf];omega⟩
        ·have e1:start mw x=q+1:=by unfold start;rw[if_neg hc.1,hq]
         have e2:=start_next hmw0 (y:=x) hc.2
         rw[←hq]at e2
         have t1:((x:Int)%(mw:Int)==0)=false:=by rw[beq_eq_false_iff_ne];omega
         have t2:((x:Int)%(mw:Int)==(mw:Int)-1)=false:=by rw[beq_eq_false_iff_ne];omega
         rw[e1]at g ⊢
         have E2:=Lib.hid e2
         clear hc hq e1 e2
         go_wp2_with (first|(go_at_call 118;refine(mwN_calls s i _ hmw (hsi _ g.out.below)).mono ?_;rintro e w' ⟨rfl,rfl⟩)|(go_at_call 117;refine(setI g.out _ _ _ (by go_num) (by go_num) (by omega) (by omega) hsw1 hsh1 (by exact TM.out)).mono ?_;rintro e wn ⟨rfl,M,gn⟩;have g:=Lib.hid gn;clear gn)|(go_at_call 56;refine(getBit_calls (HP.out.below' g.out.below HB0.out HB1.out HB2.out HB3.out) _ _ (y*dw+x) (by omega) (by omega) (by omega) (by omega) hpos.out hposl.out).mono ?_;rintro e w' ⟨rfl,nd,rfl⟩;have g:=Lib.hid (g.out.drewN nd)))
         go_quiet ((go_at_call 118;exact Calls.quiet_of_same (mwN_calls s i _ hmw (hsi _ (below_dr g.out.below _)))))
         go_wp2
         have g:=Lib.hid (g.out.drewN nq)
         exact⟨⟨x+1,by omega,by go_num,by rw[E2.out];go_num,_,by rw[E2.out];exact g⟩,by simp[intOf];omega⟩
        ·have TR:=Lib.hid (modT_right (dw:=dw) (bits:=bits) hmw0 hmh0 y hc)
         rw[←hq,←HPP.out,←HT.out]at TR
         have e1:start mw x=q+1:=by unfold start;rw[if_neg (by omega),hq]
         have e2:=start_jump hmw0 (y:=x) hc
         rw[←hq]at e2
         have t1:((x:Int)%(mw:Int)==0)=false:=by rw[beq_eq_false_iff_ne];omega
         have t2:((x:Int)%(mw:Int)==(mw:Int)-1)=true:=by rw[beq_iff_eq];omega
         rw[e1]at g ⊢
         have E2:=Lib.hid e2
         clear hc hq e1 e2
         go_wp2_with (first|(go_at_call 118;refine(mwN_calls s i _ hmw (hsi _ g.out.below)).mono ?_;rintro e w' ⟨rfl,rfl⟩)|(go_at_call 117;refine(setI g.out _ _ _ (by go_num) (by go_num) (by omega) (by omega) hsw1 hsh1 (by exact TM.out)).mono ?_;rintro e wn ⟨rfl,M,gn⟩;have g:=Lib.hid gn;clear gn)|(go_at_call 56;refine(getBit_calls (HP.out.below' g.out.below HB0.out HB1.out HB2.out HB3.out) _ _ (y*dw+x) (by omega) (by omega) (by omega) (by omega) hpos.out hposl.out).mono ?_;rintro e w' ⟨rfl,nd,rfl⟩;have g:=Lib.hid (g.out.drewN nd)))
         go_quiet ((go_at_call 118;exact Calls.quiet_of_same (mwN_calls s i _ hmw (hsi _ (below_dr g.out.below _)))))
         have g:=Lib.hid (g.out.drewN nq)
         go_wp2_with (first|(go_at_call 117;refine(setI g.out _ _ _ (by go_num) (by go_num) (by omega) (by omega) hsw1 hsh1 (by exact TR.out)).mono ?_;rintro e wn ⟨rfl,M,gn⟩;have g:=Lib.hid gn;clear gn))
         exact⟨⟨x+1,by omega,by go_num,by rw[E2.out];go_num,_,by rw[E2.out];exact g⟩,by simp[intOf];omega⟩
       ·obtain rfl:dw=x:=by omega
        have hen:start mw dw=sw:=by rw[HDW.out,HSW.out];exact start_end hmw0 nh
        rw[hen]at g ⊢
        have g:=Lib.hid g.out.row
        have g:=g
        go_wp2
        go_quiet ((go_at_call 116;exact Calls.quiet_of_same (mhN_calls s i _ hmh (hsi _ (below_dr g.out.below _)))))
        have g:=Lib.hid (g.out.drewN nq)
        go_wp2
        exact⟨⟨y+1,by omega,by go_num,by rw[YE.out];go_num,_,by rw[YE.out];exact g⟩,by simp[intOf];omega⟩
   ·have e1:start mh y=p+1:=by unfold start;rw[if_neg hd.1,HPP.out]
    have e2:=start_next hmh0 (y:=y) hd.2
    rw[←HPP.out]at e2
    have YE:=Lib.hid e2
    have s1:((y:Int)%(mh:Int)==0)=false:=by rw[beq_eq_false_iff_ne];omega
    have s2:((y:Int)%(mh:Int)==(mh:Int)-1)=false:=by rw[beq_eq_false_iff_ne];omega
    rw[e1]at g ⊢
    clear hd e1 e2
    go_wp2_with (first|(go_at_call 116;refine(mhN_calls s i _ hmh (hsi _ g.out.below)).mono ?_;rintro e w' ⟨rfl,rfl⟩))
    go_loopw [14,16] (fun c i wr=>∃x:Nat,x≤dw∧i= .int .i64 x∧c= .int .i64 (start mw x:Nat)∧∃M,Hid (Paint w wr w.heap.size sw sh T (p+1) (start mw x) M)) (fun _ i _=>dw-(intOf i).toNat)
    case atStart=>exact⟨0,by omega,rfl,by rw[start_zero];rfl,_,by rw[start_zero];exact g⟩
    case round=>
     clear g
     obtain⟨x,hx,rfl,rfl,M,g⟩:=hrel
     by_cases hltx:x<dw
     ·obtain⟨q,hq⟩:∃q,q=spot mw x:=⟨_,rfl⟩
      have hpos:=Lib.hid (show (y:Int)*(dw:Int)+(x:Int)=((y*dw+x:Nat):Int) by simp)
      have hposl:=Lib.hid (show y*dw+x<bits.length by rw[HP.out.len];have:=Nat.mul_le_mul_right dw (Nat.succ_le_of_lt hlt);rw[Nat.succ_mul]at this;omega)
      have hqs:q+2<sw:=by rw[hq,HSW.out];exact spot_lt hmw0 (by rw[←HDW.out];exact hltx)
      have TM:=Lib.hid (modT_mid (dw:=dw) (bits:=bits) hmw0 hmh0 y x)
      rw[←hq,←HPP.out,←HT.out]at TM
      have hml:=Nat.mod_lt x hmw0
      rcases(by omega:x%mw=0∨(x%mw≠0∧x%mw≠mw-1)∨x%mw=mw-1)with hc|hc|hc
      ·have TL:=Lib.hid (modT_left (dw:=dw) (bits:=bits) hmw0 hmh0 y hc)
       rw[←hq,←HPP.out,←HT.out]at TL
       have e1:start mw x=q:=by unfold start;rw[if_pos hc,hq];rfl
       have e2:=start_next hmw0 (y:=x) (by omega)
       rw[←hq]at e2
       have t1:((x:Int)%(mw:Int)==0)=true:=by rw[beq_iff_eq];omega
       have t2:((x:Int)%(mw:Int)==(mw:Int)-1)=false:=by rw[beq_eq_false_iff_ne];omega
       rw[e1]at g ⊢
       have E2:=Lib.hid e2
       clear hc hq e1 e2
       go_wp2_with (first|(go_at_call 118;refine(mwN_calls s i _ hmw (hsi _ g.out.below)).mono ?_;rintro e w' ⟨rfl,rfl⟩)|(go_at_call 117;refine(setI g.out _ _ _ (by go_num) (by go_num) (by omega) (by omega) hsw1 hsh1 (by first|(exact TL.out)|(exact TM.out))).mono ?_;rintro e wn ⟨rfl,M,gn⟩;have g:=Lib.hid gn;clear gn)|(go_at_call 56;refine(getBit_calls (HP.out.below' g.out.below HB0.out HB1.out HB2.out HB3.out) _ _ (y*dw+x) (by omega) (by omega) (by omega) (by omega) hpos.out hposl.out).mono ?_;rintro e w' ⟨rfl,nd,rfl⟩;have g:=Lib.hid (g.out.drewN nd)))
       go_quiet ((go_at_call 118;exact Calls.quiet_of_same (mwN_calls s i _ hmw (hsi _ (below_dr g.out.below _)))))
       go_wp2
       have g:=Lib.hid (g.out.drewN nq)
       exact⟨⟨x+1,by omega,by go_num,by rw[E2.out];go_num,_,by rw[E2.out];exact g⟩,by simp[intOf];omega⟩
      ·have e1:start mw x=q+1:=by unfold start;rw[if_neg hc.1,hq]
       have e2:=start_next hmw0 (y:=x) hc.2
       rw[←hq]at e2
       have t1:((x:Int)%(mw:Int)==0)=false:=by rw[beq_eq_false_iff_ne];omega
       have t2:((x:Int)%(mw:Int)==(mw:Int)-1)=false:=by rw[beq_eq_false_iff_ne];omega
       rw[e1]at g ⊢
       have E2:=Lib.hid e2
       clear hc hq e1 e2
       go_wp2_with (first|(go_at_call 118;refine(mwN_calls s i _ hmw (hsi _ g.out.below)).mono ?_;rintro e w' ⟨rfl,rfl⟩)|(go_at_call 117;refine(setI g.out _ _ _ (by go_num) (by go_num) (by omega) (by omega) hsw1 hsh1 (by exact TM.out)).mono ?_;rintro e wn ⟨rfl,M,gn⟩;have g:=Lib.hid gn;clear gn)|(go_at_call 56;refine(getBit_calls (HP.out.below' g.out.below HB0.out HB1.out HB2.out HB3.out) _ _ (y*dw+x) (by omega) (by omega) (by omega) (by omega) hpos.out hposl.out).mono ?_;rintro e w' ⟨rfl,nd,rfl⟩;have g:=Lib.hid (g.out.drewN nd)))
       go_quiet ((go_at_call 118;exact Calls.quiet_of_same (mwN_calls s i _ hmw (hsi _ (below_dr g.out.below _)))))
       go_wp2
       have g:=Lib.hid (g.out.drewN nq)
       exact⟨⟨x+1,by omega,by go_num,by rw[E2.out];go_num,_,by rw[E2.out];exact g⟩,by simp[intOf];omega⟩
      ·have TR:=Lib.hid (modT_right (dw:=dw) (bits:=bits) hmw0 hmh0 y hc)
       rw[←hq,←HPP.out,←HT.out]at TR
       have e1:start mw x=q+1:=by unfold start;rw[if_neg (by omega),hq]
       have e2:=start_jump hmw0 (y:=x) hc
       rw[←hq]at e2
       have t1:((x:Int)%(mw:Int)==0)=false:=by rw[beq_eq_false_iff_ne];omega
       have t2:((x:Int)%(mw:Int)==(mw:Int)-1)=true:=by rw[beq_iff_eq];omega
       rw[e1]at g ⊢
       have E2:=Lib.hid e2
       clear hc hq e1 e2
       go_wp2_with (first|(go_at_call 118;refine(mwN_calls s i _ hmw (hsi _ g.out.below)).mono ?_;rintro e w' ⟨rfl,rfl⟩)|(go_at_call 117;refine(setI g.out _ _ _ (by go_num) (by go_num) (by omega) (by omega) hsw1 hsh1 (by exact TM.out)).mono ?_;rintro e wn ⟨rfl,M,gn⟩;have g:=Lib.hid gn;clear gn)|(go_at_call 56;refine(getBit_calls (HP.out.below' g.out.below HB0.out HB1.out HB2.out HB3.out) _ _ (y*dw+x) (by omega) (by omega) (by omega) (by omega) hpos.out hposl.out).mono ?_;rintro e w' ⟨rfl,nd,rfl⟩;have g:=Lib.hid (g.out.drewN nd)))
       go_quiet ((go_at_call 118;exact Calls.quiet_of_same (mwN_calls s i _ hmw (hsi _ (below_dr g.out.below _)))))
       have g:=Lib.hid (g.out.drewN nq)
       go_wp2_with (first|(go_at_call 117;refine(setI g.out _ _ _ (by go_num) (by go_num) (by omega) (by omega) hsw1 hsh1 (by exact TR.out)).mono ?_;rintro e wn ⟨rfl,M,gn⟩;have g:=Lib.hid gn;clear gn))
       exact⟨⟨x+1,by omega,by go_num,by rw[E2.out];go_num,_,by rw[E2.out];exact g⟩,by simp[intOf];omega⟩
     ·obtain rfl:dw=x:=by omega
      have hen:start mw dw=sw:=by rw[HDW.out,HSW.out];exact start_end hmw0 nh
      rw[hen]at g ⊢
      have g:=Lib.hid g.out.row
      have g:=g
      go_wp2
      go_quiet ((go_at_call 116;exact Calls.quiet_of_same (mhN_calls s i _ hmh (hsi _ (below_dr g.out.below _)))))
      have g:=Lib.hid (g.out.drewN nq)
      go_wp2
      exact⟨⟨y+1,by omega,by go_num,by rw[YE.out];go_num,_,by rw[YE.out];exact g⟩,by simp[intOf];omega⟩
   ·have TB:=Lib.hid (fun X=>modT_bot (mw:=mw) (dw:=dw) (bits:=bits) hmh0 hd X)
    rw[←HPP.out,←HT.out]at TB
    have e1:start mh y=p+1:=by unfold start;rw[if_neg (by omega),HPP.out]
    have e2:=start_jump hmh0 (y:=y) hd
    rw[←HPP.out]at e2
    have YE:=Lib.hid e2
    have s1:((y:Int)%(mh:Int)==0)=false:=by rw[beq_eq_false_iff_ne];omega
    have s2:((y:Int)%(mh:Int)==(mh:Int)-1)=true:=by rw[beq_iff_eq];omega
    rw[e1]at g ⊢
    clear hd e1 e2
    go_wp2_with (first|(go_at_call 116;refine(mhN_calls s i _ hmh (hsi _ g.out.below)).mono ?_;rintro e w' ⟨rfl,rfl⟩))
    go_loopw [14,16] (fun c i wr=>∃x:Nat,x≤dw∧i= .int .i64 x∧c= .int .i64 (start mw x:Nat)∧∃M,Hid (Paint w wr w.heap.size sw sh T (p+1) (start mw x) M)) (fun _ i _=>dw-(intOf i).toNat)
    case atStart=>exact⟨0,by omega,rfl,by rw[start_zero];rfl,_,by rw[start_zero];exact g⟩
    case round=>
     clear g
     obtain⟨x,hx,rfl,rfl,M,g⟩:=hrel
     by_cases hltx:x<dw
     ·obtain⟨q,hq⟩:∃q,q=spot mw x:=⟨_,rfl⟩
      have hpos:=Lib.hid (show (y:Int)*(dw:Int)+(x:Int)=((y*dw+x:Nat):Int) by simp)
      have hposl:=Lib.hid (show y*dw+x<bits.length by rw[HP.out.len];have:=Nat.mul_le_mul_right dw (Nat.succ_le_of_lt hlt);rw[Nat.succ_mul]at this;omega)
      have hqs:q+2<sw:=by rw[hq,HSW.out];exact spot_lt hmw0 (by rw[←HDW.out];exact hltx)
      have TM:=Lib.hid (modT_mid (dw:=dw) (bits:=bits) hmw0 hmh0 y x)
      rw[←hq,←HPP.out,←HT.out]at TM
      have hml:=Nat.mod_lt x hmw0
      rcases(by omega:x%mw=0∨(x%mw≠0∧x%mw≠mw-1)∨x%mw=mw-1)with hc|hc|hc
      ·have TL:=Lib.hid (modT_left (dw:=dw) (bits:=bits) hmw0 hmh0 y hc)
       rw[←hq,←HPP.out,←HT.out]at TL
       have e1:start mw x=q:=by unfold start;rw[if_pos hc,hq];rfl
       have e2:=start_next hmw0 (y:=x) (by omega)
       rw[←hq]at e2
       have t1:((x:Int)%(mw:Int)==0)=true:=by rw[beq_iff_eq];omega
       have t2:((x:Int)%(mw:Int)==(mw:Int)-1)=false:=by rw[beq_eq_false_iff_ne];omega
       rw[e1]at g ⊢
       have E2:=Lib.hid e2
       clear hc hq e1 e2
       go_wp2_with (first|(go_at_call 118;refine(mwN_calls s i _ hmw (hsi _ g.out.below)).mono ?_;rintro e w' ⟨rfl,rfl⟩)|(go_at_call 117;refine(setI g.out _ _ _ (by go_num) (by go_num) (by omega) (by omega) hsw1 hsh1 (by first|(exact TL.out)|(exact TM.out))).mono ?_;rintro e wn ⟨rfl,M,gn⟩;have g:=Lib.hid gn;clear gn)|(go_at_call 56;refine(getBit_calls (HP.out.below' g.out.below HB0.out HB1.out HB2.out HB3.out) _ _ (y*dw+x) (by omega) (by omega) (by omega) (by omega) hpos.out hposl.out).mono ?_;rintro e w' ⟨rfl,nd,rfl⟩;have g:=Lib.hid (g.out.drewN nd)))
       go_quiet ((go_at_call 118;exact Calls.quiet_of_same (mwN_calls s i _ hmw (hsi _ (below_dr g.out.below _)))))
       go_wp2
       have g:=Lib.hid (g.out.drewN nq)
       exact⟨⟨x+1,by omega,by go_num,by rw[E2.out];go_num,_,by rw[E2.out];exact g⟩,by simp[intOf];omega⟩
      ·have e1:start mw x=q+1:=by unfold start;rw[if_neg hc.1,hq]
       have e2:=start_next hmw0 (y:=x) hc.2
       rw[←hq]at e2
       have t1:((x:Int)%(mw:Int)==0)=false:=by rw[beq_eq_false_iff_ne];omega
       have t2:((x:Int)%(mw:Int)==(mw:Int)-1)=false:=by rw[beq_eq_false_iff_ne];omega
       rw[e1]at g ⊢
       have E2:=Lib.hid e2
       clear hc hq e1 e2
       go_wp2_with (first|(go_at_call 118;refine(mwN_calls s i _ hmw (hsi _ g.out.below)).mono ?_;rintro e w' ⟨rfl,rfl⟩)|(go_at_call 117;refine(setI g.out _ _ _ (by go_num) (by go_num) (by omega) (by omega) hsw1 hsh1 (by exact TM.out)).mono ?_;rintro e wn ⟨rfl,M,gn⟩;have g:=Lib.hid gn;clear gn)|(go_at_call 56;refine(getBit_calls (HP.out.below' g.out.below HB0.out HB1.out HB2.out HB3.out) _ _ (y*dw+x) (by omega) (by omega) (by omega) (by omega) hpos.out hposl.out).mono ?_;rintro e w' ⟨rfl,nd,rfl⟩;have g:=Lib.hid (g.out.drewN nd)))
       go_quiet ((go_at_call 118;exact Calls.quiet_of_same (mwN_calls s i _ hmw (hsi _ (below_dr g.out.below _)))))
       go_wp2
       have g:=Lib.hid (g.out.drewN nq)
       exact⟨⟨x+1,by omega,by go_num,by rw[E2.out];go_num,_,by rw[E2.out];exact g⟩,by simp[intOf];omega⟩
      ·have TR:=Lib.hid (modT_right (dw:=dw) (bits:=bits) hmw0 hmh0 y hc)
       rw[←hq,←HPP.out,←HT.out]at TR
       have e1:start mw x=q+1:=by unfold start;rw[if_neg (by omega),hq]
       have e2:=start_jump hmw0 (y:=x) hc
       rw[←hq]at e2
       have t1:((x:Int)%(mw:Int)==0)=false:=by rw[beq_eq_false_iff_ne];omega
       have t2:((x:Int)%(mw:Int)==(mw:Int)-1)=true:=by rw[beq_iff_eq];omega
       rw[e1]at g ⊢
       have E2:=Lib.hid e2
       clear hc hq e1 e2
       go_wp2_with (first|(go_at_call 118;refine(mwN_calls s i _ hmw (hsi _ g.out.below)).mono ?_;rintro e w' ⟨rfl,rfl⟩)|(go_at_call 117;refine(setI g.out _ _ _ (by go_num) (by go_num) (by omega) (by omega) hsw1 hsh1 (by exact TM.out)).mono ?_;rintro e wn ⟨rfl,M,gn⟩;have g:=Lib.hid gn;clear gn)|(go_at_call 56;refine(getBit_calls (HP.out.below' g.out.below HB0.out HB1.out HB2.out HB3.out) _ _ (y*dw+x) (by omega) (by omega) (by omega) (by omega) hpos.out hposl.out).mono ?_;rintro e w' ⟨rfl,nd,rfl⟩;have g:=Lib.hid (g.out.drewN nd)))
       go_quiet ((go_at_call 118;exact Calls.quiet_of_same (mwN_calls s i _ hmw (hsi _ (below_dr g.out.below _)))))
       have g:=Lib.hid (g.out.drewN nq)
       go_wp2_with (first|(go_at_call 117;refine(setI g.out _ _ _ (by go_num) (by go_num) (by omega) (by omega) hsw1 hsh1 (by exact TR.out)).mono ?_;rintro e wn ⟨rfl,M,gn⟩;have g:=Lib.hid gn;clear gn))
       exact⟨⟨x+1,by omega,by go_num,by rw[E2.out];go_num,_,by rw[E2.out];exact g⟩,by simp[intOf];omega⟩
     ·obtain rfl:dw=x:=by omega
      have hen:start mw dw=sw:=by rw[HDW.out,HSW.out];exact start_end hmw0 nh
      rw[hen]at g ⊢
      have g:=Lib.hid g.out.row
      go_wp2
      go_quiet ((go_at_call 116;exact Calls.quiet_of_same (mhN_calls s i _ hmh (hsi _ (below_dr g.out.below _)))))
      have g:=Lib.hid (g.out.drewN nq)
      go_wp2
      go_loopw [14,17] (fun c i wr=>∃x:Nat,x≤sw∧c= .int .i64 x∧i= .int .i64 x∧∃M,Hid (Paint w wr w.heap.size sw sh T (p+2) x M)) (fun _ i _=>sw-(intOf i).toNat)
      case atStart=>exact⟨0,by omega,rfl,rfl,_,g⟩
      case round=>
       clear g
       obtain⟨x,hx,rfl,rfl,M,g⟩:=hrel
       by_cases hltx:x<sw
       ·go_wp2_with (first|(go_at_call 44;refine(swN_calls s i _ hi hsw (hsi _ g.out.below)).mono ?_;rintro e w' ⟨rfl,nd,rfl⟩;have g:=Lib.hid (g.out.drewN nd))|(go_at_call 117;refine(setI g.out _ _ _ (by go_num) (by go_num) (by omega) (by omega) hsw1 hsh1 (by exact TB.out x)).mono ?_;rintro e wn ⟨rfl,M,gn⟩;have g:=Lib.hid gn;clear gn))
        exact⟨⟨x+1,by omega,by go_num,by go_num,_,g⟩,by simp[intOf];omega⟩
       ·obtain rfl:sw=x:=by omega
        have g:=Lib.hid g.out.row
        go_wp2_with (first|(go_at_call 44;refine(swN_calls s i _ hi hsw (hsi _ g.out.below)).mono ?_;rintro e w' ⟨rfl,nd,rfl⟩;have g:=Lib.hid (g.out.drewN nd)))
        exact⟨⟨y+1,by omega,by go_num,by rw[YE.out];go_num,_,by rw[YE.out];exact g⟩,by simp[intOf];omega⟩
  ·obtain rfl:dh=y:=by omega
   have hen:start mh dh=sh:=by rw[HDH.out,HSH.out];exact start_end hmh0 nv
   rw[hen]at g ⊢
   go_wp2_with (first|(go_at_call 119;refine(conv_calls g.out.mat (by have:=g.out.mat.hdr;exact lt_of_some this) hsw0 hsh0 hsw1 hsh1).mono ?_;rintro e wc ⟨bx,bits',hbx,rfl,k1,k2,k3⟩;have K:=Lib.hid (And.intro k1 (And.intro k2 k3));clear k1 k2 k3))
   go_ret
   obtain⟨k1,k2,k3⟩:=K.out
   refine⟨_,_,by have:=g.out.below.size;omega,rfl,k1,k2.small,fun X Y hX hY=>?_,g.out.below.trans (k3.mono (by have:=g.out.below.size;omega))⟩
   rw[k2.pix X Y hX hY,g.out.done Y X hX hY (by omega)]
   simp[hY]
end Go.Proofs.YtcnallabiffemaaGreatDoor
