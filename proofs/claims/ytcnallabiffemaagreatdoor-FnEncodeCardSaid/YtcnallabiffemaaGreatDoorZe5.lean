/- The encoder's Place does what the walk of the placement says. -/
import Derived.Test.YtcnallabiffemaaGreatDoorZe3
import Derived.Deep.DeepCutAuto
import Derived.Deep.LoopGhost
import Derived.Deep.CutBlock
import Derived.Deep.RegionWith
set_option linter.unusedVariables false
set_option linter.unusedSimpArgs false
namespace Go.Proofs.YtcnallabiffemaaGreatDoor
open Go.RowKit
def PI (w0 wx:World) (b bb cb cap rows cols:Nat) (cw:List Nat) (s:PS):Prop:=OccI (foldE rows cols cw s.evs) s.occ∧PMem w0 wx b bb cb cap rows cols cw (foldE rows cols cw s.evs)
theorem corner_1 {rows cols:Nat} {row col:Int}:cornerOf rows cols row col=1↔(row=rows∧col=0):=by
 unfold cornerOf;(repeat' split)<;>(constructor<;>intro h<;>omega)
theorem corner_2 {rows cols:Nat} {row col:Int}:cornerOf rows cols row col=2↔(row=(rows:Int)-2∧col=0∧¬(cols:Int)%4=0):=by
 unfold cornerOf;(repeat' split)<;>(constructor<;>intro h<;>omega)
theorem corner_3 {rows cols:Nat} {row col:Int}:cornerOf rows cols row col=3↔(row=(rows:Int)-2∧col=0∧(cols:Int)%8=4):=by
 unfold cornerOf;(repeat' split)<;>(constructor<;>intro h<;>omega)
theorem corner_4 {rows cols:Nat} {row col:Int}:cornerOf rows cols row col=4↔(row=(rows:Int)+4∧col=2∧(cols:Int)%8=0):=by
 unfold cornerOf;(repeat' split)<;>(constructor<;>intro h<;>omega)
theorem corner_le (rows cols:Nat) (row col:Int):cornerOf rows cols row col≤4:=by
 unfold cornerOf;(repeat' split)<;>omega
def CornerTo (rows cols:Nat) (row col:Int) (s:PS) (j:Nat) (s':PS):Prop:=
 if 1≤cornerOf rows cols row col∧cornerOf rows cols row col≤j then putEv rows cols (cornerOf rows cols row col,0,0) s=some s' else s'=s
theorem CornerTo.start (rows cols:Nat) (row col:Int) (s:PS):CornerTo rows cols row col s 0 s:=by unfold CornerTo;rw[if_neg (by omega)]
theorem CornerTo.skip {rows cols:Nat} {row col:Int} {s s':PS} {j:Nat} (h:CornerTo rows cols row col s j s') (hn:cornerOf rows cols row col≠j+1):CornerTo rows cols row col s (j+1) s':=by
 unfold CornerTo at*
 by_cases e:1≤cornerOf rows cols row col∧cornerOf rows cols row col≤j
 ·rw[if_pos e]at h;rw[if_pos (by omega)];exact h
 ·rw[if_neg e]at h;rw[if_neg (by omega)];exact h
theorem CornerTo.hit {rows cols:Nat} {row col:Int} {s s' s1:PS} {j:Nat} (h:CornerTo rows cols row col s j s') (hn:cornerOf rows cols row col=j+1) (h1:cornerG rows cols row col s=some s1):
 s'=s∧putEv rows cols (j+1,0,0) s=some s1∧CornerTo rows cols row col s (j+1) s1:=by
 unfold CornerTo at*
 rw[if_neg (by omega)]at h
 unfold cornerG at h1
 rw[if_neg (by omega)]at h1
 refine⟨h,by rw[←hn];exact h1,?_⟩
 rw[if_pos (by omega)];exact h1
theorem CornerTo.fin {rows cols:Nat} {row col:Int} {s s' s1:PS} (h:CornerTo rows cols row col s 4 s') (h1:cornerG rows cols row col s=some s1):s'=s1:=by
 unfold CornerTo at h
 unfold cornerG at h1
 have:=corner_le rows cols row col
 by_cases e:cornerOf rows cols row col=0
 ·rw[if_neg (by omega)]at h;rw[if_pos e]at h1;cases h1;exact h
 ·rw[if_pos (by omega)]at h;rw[if_neg e]at h1;exact Option.some.inj (h.symm.trans h1)
theorem outG_mid {rows cols k:Nat} {row col:Int} {s s1 f:PS} (h:outG rows cols (k+1) row col s=some f) (h1:cornerG rows cols row col s=some s1):s1.evs.length≤f.evs.length:=by
 obtain⟨_,s2,x,y,g1,g2,_,g4,h5⟩:=outG_step h
 obtain rfl:s2=s1:=Option.some.inj (g1.symm.trans h1)
 have b:=upG_grow _ _ _ _ _ g2
 have c:=downG_grow _ _ _ _ _ g4
 rcases h5 with⟨_,_,rfl⟩|⟨_,h5⟩
 ·omega
 ·have:=outG_grow k _ _ _ _ h5;omega
theorem outG_mid2 {rows cols k:Nat} {row col:Int} {s s1 f:PS} {x:Int×Int×PS} (h:outG rows cols (k+1) row col s=some f) (h1:cornerG rows cols row col s=some s1) (h2:upG rows cols 200 row col s1=some x):x.2.2.evs.length≤f.evs.length:=by
 obtain⟨_,s2,x2,y,g1,g2,_,g4,h5⟩:=outG_step h
 obtain rfl:s2=s1:=Option.some.inj (g1.symm.trans h1)
 obtain rfl:x2=x:=Option.some.inj (g2.symm.trans h2)
 have c:=downG_grow _ _ _ _ _ g4
 rcases h5 with⟨_,_,rfl⟩|⟨_,h5⟩
 ·omega
 ·have:=outG_grow k _ _ _ _ h5;omega
theorem outG_mid3 {rows cols k:Nat} {row col:Int} {s s1 f:PS} {x y:Int×Int×PS} (h:outG rows cols (k+1) row col s=some f) (h1:cornerG rows cols row col s=some s1) (h2:upG rows cols 200 row col s1=some x)
 (h3:downG rows cols 200 (x.1+1) (x.2.1+3) x.2.2=some y):y.2.2.evs.length≤f.evs.length:=by
 obtain⟨_,s2,x2,y2,g1,g2,_,g4,h5⟩:=outG_step h
 obtain rfl:s2=s1:=Option.some.inj (g1.symm.trans h1)
 obtain rfl:x2=x:=Option.some.inj (g2.symm.trans h2)
 obtain rfl:y2=y:=Option.some.inj (g4.symm.trans h3)
 rcases h5 with⟨_,_,rfl⟩|⟨_,h5⟩
 ·omega
 ·exact outG_grow k _ _ _ _ h5
theorem downG_bd {rows cols:Nat}:∀(k:Nat) (row col:Int) (s:PS) (y:Int×Int×PS),downG rows cols k row col s=some y→ -102≤y.1∧y.1≤1002∧ -102≤y.2.1∧y.2.1≤1002
 |0,_,_,_,_,h=>by cases h
 |k+1,row,col,s,y,h=>by
  rw[downG]at h
  obtain⟨s1,h1,h2⟩:=Option.bind_eq_some_iff.1 h
  have ho:okRC row col:=by
   unfold downV at h1;split at h1
   ·assumption
   ·cases h1
  obtain⟨o1,o2,o3,o4⟩:=ho
  split at h2
  ·cases h2;simp only;omega
  ·exact downG_bd k _ _ _ _ h2
def finishB (rows cols:Nat) (bits:List Int):List Int:=
 if 0≤bits.getD (rows*cols-1) 0 then bits else(bits.set (rows*cols-1) 1).set (rows*cols-cols-2) 1
theorem last_idx {rows cols:Nat} (r0:6≤rows) (c0:6≤cols):
 ((rows:Int)-1)*(cols:Int)+((cols:Int)-1)=((rows*cols-1:Nat):Int)∧((rows:Int)-2)*(cols:Int)+((cols:Int)-2)=((rows*cols-cols-2:Nat):Int)∧rows*cols-1<rows*cols∧rows*cols-cols-2<rows*cols:=by
 have h1:6*cols≤rows*cols:=Nat.mul_le_mul_right _ r0
 have h2:((rows*cols:Nat):Int)=(rows:Int)*(cols:Int):=by simp
 have h3:((rows:Int)-1)*(cols:Int)=(rows:Int)*(cols:Int)-(cols:Int):=by rw[Int.sub_mul];omega
 have h4:((rows:Int)-2)*(cols:Int)=(rows:Int)*(cols:Int)-2*(cols:Int):=by rw[Int.sub_mul]
 rw[h3,h4,←h2]
 omega
set_option maxRecDepth 100000 in
set_option maxHeartbeats 16000000 in
theorem place_calls {w0 w:World} {b bb cb cap rows cols:Nat} {cw:List Nat} (h:PMem w0 w b bb cb cap rows cols cw (foldE rows cols cw [])) (hs:Small cw) (f:PS) (hG:placeG rows cols=some f)
 (hf:f.evs.length≤cw.length) (hcl:cw.length≤4000):
 Calls Tryz.prog 55 #[.pointer (some ⟨b,0,none⟩)] w (PSet w0 b bb cb cap rows cols cw (finishB rows cols (foldE rows cols cw f.evs))):=by
 have hPI:PI w0 w b bb cb cap rows cols cw ⟨0,[]⟩:=⟨OccI.init rows cols cw,h⟩
 have HG:=Lib.hid hG
 have r0:=h.r0
 have r1:=h.r1
 have c0:=h.c0
 have c1:=h.c1
 clear h hG
 go_enter Tryz.func55,Tryz.ntmps55
 go_wp2
 go_loopg [2,3,4] 100 (fun k p r c wx=>∃(s:PS) (row col:Int),p= .int .i64 (s.evs.length:Nat)∧r= .int .i64 row∧c= .int .i64 col∧Hid (outG rows cols k row col s=some f)∧PI w0 wx b bb cb cap rows cols cw s)
 case atStart=>exact⟨⟨0,[]⟩,4,0,rfl,rfl,rfl,HG,hPI⟩
 case round=>
  obtain⟨s,row,col,rfl,rfl,rfl,HO,hP⟩:=hrel
  rcases gk with _|k
  ·have:=HO.out;simp[outG]at this
  ·obtain⟨hok,s1,x,y,g1,g2,hok2,g3,g4⟩:=outG_step HO.out
   obtain⟨o1,o2,o3,o4⟩:=hok
   have G1:=Lib.hid g1
   have G2:=Lib.hid g2
   have G3:=Lib.hid g3
   have G4:=Lib.hid g4
   have HOK:=Lib.hid hok2
   clear g1 g2 g3 g4 hok2 HG hPI
   have hgr:s1.evs.length≤f.evs.length:=outG_mid HO.out G1.out
   refine wp_block ?_
   apply wp_seq_k
   intro K1 hK1
   go_cut [2] (fun p wx=>∃s',Hid (CornerTo rows cols row col s 1 s')∧p= .int .i64 (s'.evs.length:Nat)∧PI w0 wx b bb cb cap rows cols cw s')
   case first=>as_aux_lemma=>
    have k1:=hP.2.k1
    have k2:=hP.2.k2
    by_cases hc:row=(rows:Int)∧col=0
    ·obtain⟨e1,e2,e3⟩:=CornerTo.hit (CornerTo.start rows cols row col s) (corner_1.2 hc) G1.out
     obtain⟨v1,v2,v3⟩:=putEv_ok (cw:=cw) e2 hP.1
     have hpos:s.evs.length<cw.length:=by rw[v1]at hgr;simp at hgr;omega
     have t1:(row==(rows:Int))=true:=by rw[beq_iff_eq];omega
     have t2:(col==0)=true:=by rw[beq_iff_eq];omega
     have E2:=Lib.hid e2
     have E3:=Lib.hid e3
     have V1:=Lib.hid v1
     clear hc e2 e3 v1 e1
     go_wp2_with (go_at_call 101;refine(corner1_calls hP.2 hs s.evs.length (v2 _ (by simp[coords])) (v2 _ (by simp[coords])) (v2 _ (by simp[coords])) (v2 _ (by simp[coords])) (v2 _ (by simp[coords])) (v2 _ (by simp[coords])) (v2 _ (by simp[coords])) (v2 _ (by simp[coords])) hpos hcl).mono ?_;rintro e w' ⟨rfl,hp⟩)
     go_meet
     case rel=>exact⟨s1,E3,by rw[V1.out];simp,v3,by rw[V1.out];exact hp⟩
    ·have SK:=Lib.hid (CornerTo.skip (CornerTo.start rows cols row col s) (fun h=>hc (corner_1.1 h)))
     by_cases h1:row=(rows:Int)
     ·have t1:(row==(rows:Int))=true:=by rw[beq_iff_eq];omega
      have t2:(col==0)=false:=by rw[beq_eq_false_iff_ne];omega
      clear hc h1
      go_wp2
      go_meet
      case rel=>exact⟨s,SK,rfl,hP⟩
     ·have t1:(row==(rows:Int))=false:=by rw[beq_eq_false_iff_ne];omega
      clear hc h1
      go_wp2
      go_meet
      case rel=>exact⟨s,SK,rfl,hP⟩
   case rest=>
    obtain⟨sa,HC1,rfl,hP1⟩:=hcut
    refine hK1 _ _ ?_
    clear hK1
    apply wp_seq_k
    intro K2 hK2
    go_cut [2] (fun p wx=>∃s',Hid (CornerTo rows cols row col s 2 s')∧p= .int .i64 (s'.evs.length:Nat)∧PI w0 wx b bb cb cap rows cols cw s')
    case first=>as_aux_lemma=>
     have k1:=hP1.2.k1
     have k2:=hP1.2.k2
     by_cases hc:row=(rows:Int)-2∧col=0∧¬(cols:Int)%4=0
     ·obtain⟨e1,e2,e3⟩:=CornerTo.hit HC1.out (corner_2.2 hc) G1.out
      subst e1
      obtain⟨v1,v2,v3⟩:=putEv_ok (cw:=cw) e2 hP1.1
      have hpos:sa.evs.length<cw.length:=by rw[v1]at hgr;simp at hgr;omega
      have t1:(row==(rows:Int)-2)=true:=by rw[beq_iff_eq];omega
      have t2:(col==0)=true:=by rw[beq_iff_eq];omega
      have t3:((cols:Int)%4 !=0)=true:=by rw[bne_iff_ne];omega
      have E2:=Lib.hid e2
      have E3:=Lib.hid e3
      have V1:=Lib.hid v1
      clear hc e2 e3 v1
      go_wp2_with (go_at_call 102;refine(corner2_calls hP1.2 hs sa.evs.length (v2 _ (by simp[coords])) (v2 _ (by simp[coords])) (v2 _ (by simp[coords])) (v2 _ (by simp[coords])) (v2 _ (by simp[coords])) (v2 _ (by simp[coords])) (v2 _ (by simp[coords])) (v2 _ (by simp[coords])) hpos hcl).mono ?_;rintro e w' ⟨rfl,hp⟩)
      go_meet
      case rel=>exact⟨s1,E3,by rw[V1.out];simp,v3,by rw[V1.out];exact hp⟩
     ·have SK:=Lib.hid (CornerTo.skip HC1.out (fun h=>hc (corner_2.1 h)))
      by_cases h1:row=(rows:Int)-2
      ·have t1:(row==(rows:Int)-2)=true:=by rw[beq_iff_eq];omega
       by_cases h2:col=0
       ·have t2:(col==0)=true:=by rw[beq_iff_eq];omega
        have t3:((cols:Int)%4 !=0)=false:=by rw[bne_eq_false_iff_eq];omega
        clear hc h1 h2
        go_wp2
        go_meet
        case rel=>exact⟨sa,SK,rfl,hP1⟩
       ·have t2:(col==0)=false:=by rw[beq_eq_false_iff_ne];omega
        clear hc h1 h2
        go_wp2
        go_meet
        case rel=>exact⟨sa,SK,rfl,hP1⟩
      ·have t1:(row==(rows:Int)-2)=false:=by rw[beq_eq_false_iff_ne];omega
       clear hc h1
       go_wp2
       go_meet
       case rel=>exact⟨sa,SK,rfl,hP1⟩
    case rest=>
     obtain⟨sb,HC2,rfl,hP2⟩:=hcut
     refine hK2 _ _ ?_
     clear hK2
     apply wp_seq_k
     intro K3 hK3
     go_cut [2] (fun p wx=>∃s',Hid (CornerTo rows cols row col s 3 s')∧p= .int .i64 (s'.evs.length:Nat)∧PI w0 wx b bb cb cap rows cols cw s')
     case first=>as_aux_lemma=>
      have k1:=hP2.2.k1
      have k2:=hP2.2.k2
      by_cases hc:row=(rows:Int)-2∧col=0∧(cols:Int)%8=4
      ·obtain⟨e1,e2,e3⟩:=CornerTo.hit HC2.out (corner_3.2 hc) G1.out
       subst e1
       obtain⟨v1,v2,v3⟩:=putEv_ok (cw:=cw) e2 hP2.1
       have hpos:sb.evs.length<cw.length:=by rw[v1]at hgr;simp at hgr;omega
       have t1:(row==(rows:Int)-2)=true:=by rw[beq_iff_eq];omega
       have t2:(col==0)=true:=by rw[beq_iff_eq];omega
       have t3:((cols:Int)%8==4)=true:=by rw[beq_iff_eq];omega
       have E2:=Lib.hid e2
       have E3:=Lib.hid e3
       have V1:=Lib.hid v1
       clear hc e2 e3 v1
       go_wp2_with (go_at_call 103;refine(corner3_calls hP2.2 hs sb.evs.length (v2 _ (by simp[coords])) (v2 _ (by simp[coords])) (v2 _ (by simp[coords])) (v2 _ (by simp[coords])) (v2 _ (by simp[coords])) (v2 _ (by simp[coords])) (v2 _ (by simp[coords])) (v2 _ (by simp[coords])) hpos hcl).mono ?_;rintro e w' ⟨rfl,hp⟩)
       go_meet
       case rel=>exact⟨s1,E3,by rw[V1.out];simp,v3,by rw[V1.out];exact hp⟩
      ·have SK:=Lib.hid (CornerTo.skip HC2.out (fun h=>hc (corner_3.1 h)))
       by_cases h1:row=(rows:Int)-2
       ·have t1:(row==(rows:Int)-2)=true:=by rw[beq_iff_eq];omega
        by_cases h2:col=0
        ·have t2:(col==0)=true:=by rw[beq_iff_eq];omega
         have t3:((cols:Int)%8==4)=false:=by rw[beq_eq_false_iff_ne];omega
         clear hc h1 h2
         go_wp2
         go_meet
         case rel=>exact⟨sb,SK,rfl,hP2⟩
        ·have t2:(col==0)=false:=by rw[beq_eq_false_iff_ne];omega
         clear hc h1 h2
         go_wp2
         go_meet
         case rel=>exact⟨sb,SK,rfl,hP2⟩
       ·have t1:(row==(rows:Int)-2)=false:=by rw[beq_eq_false_iff_ne];omega
        clear hc h1
        go_wp2
        go_meet
        case rel=>exact⟨sb,SK,rfl,hP2⟩
     case rest=>
      obtain⟨sc,HC3,rfl,hP3⟩:=hcut
      refine hK3 _ _ ?_
      clear hK3
      apply wp_seq_k
      intro K4 hK4
      go_cut [2] (fun p wx=>∃s',Hid (CornerTo rows cols row col s 4 s')∧p= .int .i64 (s'.evs.length:Nat)∧PI w0 wx b bb cb cap rows cols cw s')
      case first=>as_aux_lemma=>
       have k1:=hP3.2.k1
       have k2:=hP3.2.k2
       by_cases hc:row=(rows:Int)+4∧col=2∧(cols:Int)%8=0
       ·obtain⟨e1,e2,e3⟩:=CornerTo.hit HC3.out (corner_4.2 hc) G1.out
        subst e1
        obtain⟨v1,v2,v3⟩:=putEv_ok (cw:=cw) e2 hP3.1
        have hpos:sc.evs.length<cw.length:=by rw[v1]at hgr;simp at hgr;omega
        have t1:(row==(rows:Int)+4)=true:=by rw[beq_iff_eq];omega
        have t2:(col==2)=true:=by rw[beq_iff_eq];omega
        have t3:((cols:Int)%8==0)=true:=by rw[beq_iff_eq];omega
        have E2:=Lib.hid e2
        have E3:=Lib.hid e3
        have V1:=Lib.hid v1
        clear hc e2 e3 v1
        go_wp2_with (go_at_call 104;refine(corner4_calls hP3.2 hs sc.evs.length (v2 _ (by simp[coords])) (v2 _ (by simp[coords])) (v2 _ (by simp[coords])) (v2 _ (by simp[coords])) (v2 _ (by simp[coords])) (v2 _ (by simp[coords])) (v2 _ (by simp[coords])) (v2 _ (by simp[coords])) hpos hcl).mono ?_;rintro e w' ⟨rfl,hp⟩)
        go_meet
        case rel=>exact⟨s1,E3,by rw[V1.out];simp,v3,by rw[V1.out];exact hp⟩
       ·have SK:=Lib.hid (CornerTo.skip HC3.out (fun h=>hc (corner_4.1 h)))
        by_cases h1:row=(rows:Int)+4
        ·have t1:(row==(rows:Int)+4)=true:=by rw[beq_iff_eq];omega
         by_cases h2:col=2
         ·have t2:(col==2)=true:=by rw[beq_iff_eq];omega
          have t3:((cols:Int)%8==0)=false:=by rw[beq_eq_false_iff_ne];omega
          clear hc h1 h2
          go_wp2
          go_meet
          case rel=>exact⟨sc,SK,rfl,hP3⟩
         ·have t2:(col==2)=false:=by rw[beq_eq_false_iff_ne];omega
          clear hc h1 h2
          go_wp2
          go_meet
          case rel=>exact⟨sc,SK,rfl,hP3⟩
        ·have t1:(row==(rows:Int)+4)=false:=by rw[beq_eq_false_iff_ne];omega
         clear hc h1
         go_wp2
         go_meet
         case rel=>exact⟨sc,SK,rfl,hP3⟩
      case rest=>
       obtain⟨sd,HC4,rfl,hP4⟩:=hcut
       refine hK4 _ _ ?_
       clear hK4
       have hfin:=CornerTo.fin HC4.out G1.out
       subst hfin
       clear HC1 HC2 HC3 HC4
       have hgx5:x.2.2.evs.length≤f.evs.length:=outG_mid2 HO.out G1.out G2.out
       apply wp_seq_k
       intro K5 hK5
       go_cut [2,3,4] (fun p r c wx=>p= .int .i64 (x.2.2.evs.length:Nat)∧r= .int .i64 x.1∧c= .int .i64 x.2.1∧PI w0 wx b bb cb cap rows cols cw x.2.2)
       case first=>as_aux_lemma=>
        go_wp2
        go_loopg [2,3,4] 200 (fun k p r c wx=>∃(su:PS) (ro co:Int),p= .int .i64 (su.evs.length:Nat)∧r= .int .i64 ro∧c= .int .i64 co∧Hid (upG rows cols k ro co su=some x)∧PI w0 wx b bb cb cap rows cols cw su)
        case atStart=>exact⟨sd,row,col,rfl,rfl,rfl,G2,hP4⟩
        case round=>
         clear hP4 G2
         obtain⟨su,ro,co,rfl,rfl,rfl,HU,hQ⟩:=hrel
         rcases gk with _|gk
         ·have:=HU.out;simp[upG]at this
         ·have hu:=HU.out
          rw[upG]at hu
          obtain⟨s2,u1,u2⟩:=Option.bind_eq_some_iff.1 hu
          have hg2:s2.evs.length≤f.evs.length:=by
           refine Nat.le_trans ?_ hgx5
           split at u2
           ·cases u2;exact Nat.le_refl _
           ·exact upG_grow _ _ _ _ _ u2
          have U2:=Lib.hid u2
          clear hu u2 HU
          refine wp_block ?_
          apply wp_seq_k
          intro K5a hK5a
          have hrc:okRC ro co:=by
           unfold upV at u1;split at u1
           ·assumption
           ·cases u1
          obtain⟨m1,m2,m3,m4⟩:=hrc
          go_cut [2] (fun p wy=>p= .int .i64 (s2.evs.length:Nat)∧PI w0 wy b bb cb cap rows cols cw s2)
          case first=>
           have k1:=hQ.2.k1
           have k2:=hQ.2.k2
           unfold upV at u1
           rw[if_pos ⟨m1,m2,m3,m4⟩]at u1
           by_cases hA:ro<(rows:Int)∧0≤co
           ·rw[if_pos hA]at u1
            unfold visit at u1
            split at u1
            ·rename_i hin
             obtain⟨z1,z2,z3,z4⟩:=hin
             obtain⟨n,hn⟩:∃n:Nat,ro*(cols:Int)+co=n:=⟨(ro*(cols:Int)+co).toNat,by have:=Int.mul_nonneg z1 (by omega:(0:Int)≤(cols:Int));omega⟩
             rw[hn,Int.toNat_natCast]at u1
             have hlt:n<(foldE rows cols cw su.evs).length:=by
              rw[length_foldE]
              have h1:(n:Int)<(rows:Int)*(cols:Int):=by
               rw[←hn]
               have h2:=Int.mul_le_mul_of_nonneg_right (show ro+1≤(rows:Int) by omega) (by omega:(0:Int)≤(cols:Int))
               rw[Int.add_mul]at h2
               omega
              have h3:((rows*cols:Nat):Int)=(rows:Int)*(cols:Int):=by simp
              omega
             have hocc:=hQ.1 n hlt
             have HN:=Lib.hid hn
             clear hn hA
             by_cases tb:su.occ.testBit n=true
             ·rw[if_pos tb]at u1
              obtain rfl:=Option.some.inj u1
              rw[tb]at hocc
              have HOC:=Lib.hid hocc
              clear hocc tb u1
              go_wp2_with (go_at_call 105;refine(hasBit_calls hQ.2 co ro n (by omega) (by omega) (by omega) (by omega) HN.out hlt).mono ?_;rintro e w' ⟨rfl,m,rfl⟩;rw[HOC.out])
              go_meet
              case rel=>exact⟨rfl,hQ.1,hQ.2.drewN m⟩
             ·rw[if_neg tb]at u1
              obtain⟨v1,v2,v3⟩:=putEv_ok (cw:=cw) u1 hQ.1
              have hpos:su.evs.length<cw.length:=by rw[v1]at hg2;simp at hg2;omega
              rw[show su.occ.testBit n=false by simpa using tb]at hocc
              have HOC:=Lib.hid hocc
              have V1:=Lib.hid v1
              clear hocc tb u1 v1
              go_wp2_with (first|(go_at_call 105;refine(hasBit_calls hQ.2 co ro n (by omega) (by omega) (by omega) (by omega) HN.out hlt).mono ?_;rintro e w' ⟨rfl,m,rfl⟩;rw[HOC.out])|(go_at_call 106;refine(utah_calls (hQ.2.drewN m) hs ro co su.evs.length (v2 _ (by simp[coords])) (v2 _ (by simp[coords])) (v2 _ (by simp[coords])) (v2 _ (by simp[coords])) (v2 _ (by simp[coords])) (v2 _ (by simp[coords])) (v2 _ (by simp[coords])) (v2 _ (by simp[coords])) (by omega) (by omega) (by omega) (by omega) hpos hcl).mono ?_;rintro e w' ⟨rfl,hp⟩))
              go_meet
              case rel=>exact⟨by rw[V1.out];simp,v3,by rw[V1.out];exact hp⟩
            ·cases u1
           ·rw[if_neg hA]at u1
            obtain rfl:=Option.some.inj u1
            clear u1
            by_cases hB:ro<(rows:Int)
            ·go_wp2
             go_meet
             case rel=>exact⟨rfl,hQ⟩
            ·go_wp2
             go_meet
             case rel=>exact⟨rfl,hQ⟩
          case rest=>
           obtain⟨rfl,hQ2⟩:=hcut
           refine hK5a _ _ ?_
           clear hK5a hQ u1
           have k1:=hQ2.2.k1
           have k2:=hQ2.2.k2
           by_cases hE:ro-2<0
           ·have hx:=U2.out
            rw[if_pos (.inl hE)]at hx
            obtain rfl:=Option.some.inj hx
            clear hx U2
            go_wp2
            go_meet
            case rel=>exact⟨rfl,rfl,rfl,hQ2⟩
           ·by_cases hF:(cols:Int)≤co+2
            ·have hx:=U2.out
             rw[if_pos (.inr hF)]at hx
             obtain rfl:=Option.some.inj hx
             clear hx U2
             go_wp2
             go_meet
             case rel=>exact⟨rfl,rfl,rfl,hQ2⟩
            ·have hx:=U2.out
             rw[if_neg (by omega)]at hx
             have HX:=Lib.hid hx
             clear hx U2
             go_wp2
             go_roundg gk
             case measure=>omega
             case rel=>exact⟨s2,_,_,rfl,rfl,rfl,HX,hQ2⟩
       case rest=>
        obtain⟨rfl,rfl,rfl,hP5⟩:=hcut
        refine hK5 _ _ ?_
        clear hK5
        obtain⟨q1,q2,q3,q4⟩:=HOK.out
        have hgx6:y.2.2.evs.length≤f.evs.length:=outG_mid3 HO.out G1.out G2.out G3.out
        obtain⟨j1,j2,j3,j4⟩:=downG_bd _ _ _ _ _ G3.out
        go_upto_block 4 with(fail)
        go_cut [2,3,4] (fun p r c wx=>p= .int .i64 (y.2.2.evs.length:Nat)∧r= .int .i64 y.1∧c= .int .i64 y.2.1∧PI w0 wx b bb cb cap rows cols cw y.2.2)
        case first=>as_aux_lemma=>
         go_wp2
         go_loopg [2,3,4] 200 (fun k p r c wx=>∃(su:PS) (ro co:Int),p= .int .i64 (su.evs.length:Nat)∧r= .int .i64 ro∧c= .int .i64 co∧Hid (downG rows cols k ro co su=some y)∧PI w0 wx b bb cb cap rows cols cw su)
         case atStart=>exact⟨x.2.2,_,_,rfl,rfl,rfl,G3,hP5⟩
         case round=>
          clear hP5 G3
          obtain⟨su,ro,co,rfl,rfl,rfl,HU,hQ⟩:=hrel
          rcases gk with _|gk
          ·have:=HU.out;simp[downG]at this
          ·have hu:=HU.out
           rw[downG]at hu
           obtain⟨s2,u1,u2⟩:=Option.bind_eq_some_iff.1 hu
           have hg2:s2.evs.length≤f.evs.length:=by
            refine Nat.le_trans ?_ hgx6
            split at u2
            ·cases u2;exact Nat.le_refl _
            ·exact downG_grow _ _ _ _ _ u2
           have U2:=Lib.hid u2
           clear hu u2 HU
           refine wp_block ?_
           apply wp_seq_k
           intro K6a hK6a
           have hrc:okRC ro co:=by
            unfold downV at u1;split at u1
            ·assumption
            ·cases u1
           obtain⟨m1,m2,m3,m4⟩:=hrc
           go_cut [2] (fun p wy=>p= .int .i64 (s2.evs.length:Nat)∧PI w0 wy b bb cb cap rows cols cw s2)
           case first=>
            have k1:=hQ.2.k1
            have k2:=hQ.2.k2
            unfold downV at u1
            rw[if_pos ⟨m1,m2,m3,m4⟩]at u1
            by_cases hA:0≤ro∧co<(cols:Int)
            ·rw[if_pos hA]at u1
             unfold visit at u1
             split at u1
             ·rename_i hin
              obtain⟨z1,z2,z3,z4⟩:=hin
              obtain⟨n,hn⟩:∃n:Nat,ro*(cols:Int)+co=n:=⟨(ro*(cols:Int)+co).toNat,by have:=Int.mul_nonneg z1 (by omega:(0:Int)≤(cols:Int));omega⟩
              rw[hn,Int.toNat_natCast]at u1
              have hlt:n<(foldE rows cols cw su.evs).length:=by
               rw[length_foldE]
               have h1:(n:Int)<(rows:Int)*(cols:Int):=by
                rw[←hn]
                have h2:=Int.mul_le_mul_of_nonneg_right (show ro+1≤(rows:Int) by omega) (by omega:(0:Int)≤(cols:Int))
                rw[Int.add_mul]at h2
                omega
               have h3:((rows*cols:Nat):Int)=(rows:Int)*(cols:Int):=by simp
               omega
              have hocc:=hQ.1 n hlt
              have HN:=Lib.hid hn
              clear hn hA
              by_cases tb:su.occ.testBit n=true
              ·rw[if_pos tb]at u1
               obtain rfl:=Option.some.inj u1
               rw[tb]at hocc
               have HOC:=Lib.hid hocc
               clear hocc tb u1
               go_wp2_with (go_at_call 105;refine(hasBit_calls hQ.2 co ro n (by omega) (by omega) (by omega) (by omega) HN.out hlt).mono ?_;rintro e w' ⟨rfl,m,rfl⟩;rw[HOC.out])
               go_meet
               case rel=>exact⟨rfl,hQ.1,hQ.2.drewN m⟩
              ·rw[if_neg tb]at u1
               obtain⟨v1,v2,v3⟩:=putEv_ok (cw:=cw) u1 hQ.1
               have hpos:su.evs.length<cw.length:=by rw[v1]at hg2;simp at hg2;omega
               rw[show su.occ.testBit n=false by simpa using tb]at hocc
               have HOC:=Lib.hid hocc
               have V1:=Lib.hid v1
               clear hocc tb u1 v1
               go_wp2_with (first|(go_at_call 105;refine(hasBit_calls hQ.2 co ro n (by omega) (by omega) (by omega) (by omega) HN.out hlt).mono ?_;rintro e w' ⟨rfl,m,rfl⟩;rw[HOC.out])|(go_at_call 106;refine(utah_calls (hQ.2.drewN m) hs ro co su.evs.length (v2 _ (by simp[coords])) (v2 _ (by simp[coords])) (v2 _ (by simp[coords])) (v2 _ (by simp[coords])) (v2 _ (by simp[coords])) (v2 _ (by simp[coords])) (v2 _ (by simp[coords])) (v2 _ (by simp[coords])) (by omega) (by omega) (by omega) (by omega) hpos hcl).mono ?_;rintro e w' ⟨rfl,hp⟩))
               go_meet
               case rel=>exact⟨by rw[V1.out];simp,v3,by rw[V1.out];exact hp⟩
             ·cases u1
            ·rw[if_neg hA]at u1
             obtain rfl:=Option.some.inj u1
             clear u1
             by_cases hB:0≤ro
             ·go_wp2
              go_meet
              case rel=>exact⟨rfl,hQ⟩
             ·go_wp2
              go_meet
              case rel=>exact⟨rfl,hQ⟩
           case rest=>
            obtain⟨rfl,hQ2⟩:=hcut
            refine hK6a _ _ ?_
            clear hK6a hQ u1
            have k1:=hQ2.2.k1
            have k2:=hQ2.2.k2
            by_cases hE:(rows:Int)≤ro+2
            ·have hx:=U2.out
             rw[if_pos (.inl hE)]at hx
             obtain rfl:=Option.some.inj hx
             clear hx U2
             go_wp2
             go_meet
             case rel=>exact⟨rfl,rfl,rfl,hQ2⟩
            ·by_cases hF:co-2<0
             ·have hx:=U2.out
              rw[if_pos (.inr hF)]at hx
              obtain rfl:=Option.some.inj hx
              clear hx U2
              go_wp2
              go_meet
              case rel=>exact⟨rfl,rfl,rfl,hQ2⟩
             ·have hx:=U2.out
              rw[if_neg (by omega)]at hx
              have HX:=Lib.hid hx
              clear hx U2
              go_wp2
              go_roundg gk
              case measure=>omega
              case rel=>exact⟨s2,_,_,rfl,rfl,rfl,HX,hQ2⟩
        case rest=>
         obtain⟨rfl,rfl,rfl,hP6⟩:=hcut
         have k1:=hP6.2.k1
         have k2:=hP6.2.k2
         rcases G4.out with⟨e1,e2,e3⟩|⟨e1,e2⟩
         ·subst e3
          clear G4
          go_wp2
          have iw1:IntKind.i64.wrap ((cols:Int)-1)=(cols:Int)-1:=IntWalk.i64_in _ (by omega)
          have iw2:IntKind.i64.wrap ((rows:Int)-1)=(rows:Int)-1:=IntWalk.i64_in _ (by omega)
          have iw3:IntKind.i64.wrap ((cols:Int)-2)=(cols:Int)-2:=IntWalk.i64_in _ (by omega)
          have iw4:IntKind.i64.wrap ((rows:Int)-2)=(rows:Int)-2:=IntWalk.i64_in _ (by omega)
          obtain⟨hn1,hn2,hl1,hl2⟩:=last_idx r0 c0
          have HN1:=Lib.hid hn1
          have HN2:=Lib.hid hn2
          clear hn1 hn2
          have hlen:=length_foldE rows cols cw y.2.2.evs
          have hL1:rows*cols-1<(foldE rows cols cw y.2.2.evs).length:=by omega
          have hL2:rows*cols-cols-2<((foldE rows cols cw y.2.2.evs).set (rows*cols-1) 1).length:=by rw[List.length_set];omega
          clear hlen
          have hfin:PMem w0 wc b bb cb cap rows cols cw (foldE rows cols cw y.2.2.evs):=hP6.2
          have HF:=Lib.hid hfin
          clear hfin hP6
          generalize foldE rows cols cw y.2.2.evs=bits at*
          by_cases hd:0≤bits.getD (rows*cols-1) 0
          ·have HFB:=Lib.hid (show finishB rows cols bits=bits by unfold finishB;rw[if_pos hd])
           have HD:=Lib.hid (show decide (0≤bits.getD (rows*cols-1) 0)=true by simpa using hd)
           clear hd
           go_quiet ((go_at_call 105;exact Calls.quiet_of ((hasBit_calls (HF.out.drewN _) _ _ (rows*cols-1) (by omega) (by omega) (by omega) (by omega) HN1.out hL1).mono (fun e w' h=>⟨h.1.trans (by rw[HD.out]),h.2⟩))))
           go_wp2
           go_end0
           exact⟨rfl,by rw[HFB.out];exact HF.out.drewN _⟩
          ·have HFB:=Lib.hid (show finishB rows cols bits=(bits.set (rows*cols-1) 1).set (rows*cols-cols-2) 1 by unfold finishB;rw[if_neg hd])
           have HD:=Lib.hid (show decide (0≤bits.getD (rows*cols-1) 0)=false by simpa using hd)
           clear hd
           go_quiet ((go_at_call 105;exact Calls.quiet_of ((hasBit_calls (HF.out.drewN _) _ _ (rows*cols-1) (by omega) (by omega) (by omega) (by omega) HN1.out hL1).mono (fun e w' h=>⟨h.1.trans (by rw[HD.out]),h.2⟩))))
           go_wp2
           have HF2:=Lib.hid (HF.out.drewN nq)
           generalize wc.drewN nq=wd at HF2 ⊢
           have k1:=HF2.out.k1
           have k2:=HF2.out.k2
           go_region_with ((go_at_call 107;refine(setBit_calls true HF2.out.drew _ _ (rows*cols-1) (by omega) (by omega) (by omega) (by omega) HN1.out hL1).mono ?_;rintro e w' ⟨rfl,hp⟩;have HF3:=Lib.hid hp;clear hp;have k1:=HF3.out.k1;have k2:=HF3.out.k2))
           all_goals
            go_wp2
            go_region_with ((go_at_call 107;refine(setBit_calls true HF3.out.drew _ _ (rows*cols-cols-2) (by omega) (by omega) (by omega) (by omega) HN2.out hL2).mono ?_;rintro e w' ⟨rfl,hp⟩))
            all_goals
             go_wp2
             go_end0
             exact⟨rfl,by rw[HFB.out];exact hp⟩
         ·have E2:=Lib.hid e2
          clear e2 G4
          by_cases hE:(rows:Int)≤y.1+3
          ·go_wp2
           go_roundg k
           case measure=>omega
           case rel=>exact⟨y.2.2,_,_,rfl,rfl,rfl,E2,hP6⟩
          ·go_wp2
           go_roundg k
           case measure=>omega
           case rel=>exact⟨y.2.2,_,_,rfl,rfl,rfl,E2,hP6⟩
end Go.Proofs.YtcnallabiffemaaGreatDoor
