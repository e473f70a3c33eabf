/- impl.Check: the data and check codewords of a symbol. -/
import Derived.Test.YtcnallabiffemaaGreatDoorZj7
import Derived.Test.YtcnallabiffemaaGreatDoorZj3
import Derived.OwnWalk
import Derived.Test.YtcnallabiffemaaGreatDoorZh1
set_option linter.unusedVariables false
set_option linter.unusedSimpArgs false
namespace Go.Proofs.YtcnallabiffemaaGreatDoor
section
open Go.RowKit
theorem dl144 {b i:Nat} {w:World} (hi:i<29) (h:w.heap[b]? =some (.cells (siOf i) 112)) (x:Int):
 Calls Tryz.prog 144 #[.pointer (some ⟨b,0,none⟩),.int .i64 x] w fun e w'=>e= .returned (.int .i64 (rbdOf i))∧w=w':=by
 have c6:=si_rbd h
 go_enter Tryz.func144,Tryz.ntmps144
 go_wp2
 go_ret
 exact⟨rfl,rfl⟩
theorem dl_calls {b i:Nat} {w:World} (hi:i<29) (h:w.heap[b]? =some (.cells (siOf i) 112)) (x:Int):
 Calls Tryz.prog 112 #[.pointer (some ⟨b,0,none⟩),.int .i64 x] w fun e w'=>e= .returned (.int .i64 (rbdOf i))∧w=w':=by
 obtain⟨_,c9⟩:=si_f w b i hi h
 go_enter Tryz.func112,Tryz.ntmps112
 go_wp2_with (go_at_call 144;refine(dl144 hi h _).mono ?_;rintro e w' ⟨rfl,rfl⟩)
 go_ret
 exact⟨rfl,rfl⟩
theorem el_calls {b i:Nat} {w:World} (h:w.heap[b]? =some (.cells (siOf i) 112)) (x:Int):
 Calls Tryz.prog 113 #[.pointer (some ⟨b,0,none⟩),.int .i64 x] w fun e w'=>e= .returned (.int .i64 (rbeOf i))∧w=w':=by
 have c7:=si_rbe h
 go_enter Tryz.func113,Tryz.ntmps113
 go_wp2
 go_ret
 exact⟨rfl,rfl⟩
def fillN (n k x:Nat):List Nat:=List.replicate k x++List.replicate (n-k) 0
theorem fillN_zero (n x:Nat):fillN n 0 x=List.replicate n 0:=by simp[fillN]
theorem fillN_len {n k x:Nat} (h:k≤n):(fillN n k x).length=n:=by simp[fillN];omega
theorem fillN_set {n k x:Nat} (h:k<n):(fillN n k x).set k x=fillN n (k+1) x:=by
 unfold fillN
 rw[List.set_append_right _ _ (by simp)]
 obtain⟨m,hm⟩:∃m,n-k=m+1:=⟨n-k-1,by omega⟩
 rw[hm,show n-(k+1)=m by omega,List.replicate_succ' (n:=k),List.append_assoc]
 simp[List.replicate_succ]
theorem fillN_get {n x j:Nat} (h:j<n):(fillN n n x).getD j 0=x:=by
 simp[fillN,h]
def valE (poly data:List Nat) (B q e:Nat):Nat:=(eccOut poly (blockTo data B (e%B) q)).getD (e/B) 0
structure Turn (cur:Array Value) (poly data:List Nat) (N C B q b p:Nat):Prop where
 size:cur.size=N+C
 dat:∀j,j<N→cur[j]? =some (.int .u8 ((data.getD j 0:Nat):Int))
 chk:∀e,e<C→(e%B<b∨e%B=b∧e/B<p)→cur[N+e]? =some (.int .u8 ((valE poly data B q e:Nat):Int))
theorem Turn.put {cur:Array Value} {poly data:List Nat} {N C B q b p:Nat} (h:Turn cur poly data N C B q b p) (hb:b<B) (hp:b+p*B<C):
 Turn (cur.setIfInBounds (N+(b+p*B)) (.int .u8 (((eccOut poly (blockTo data B b q)).getD p 0:Nat):Int))) poly data N C B q b (p+1):=by
 have hm:(b+p*B)%B=b:=by rw[Nat.add_mul_mod_self_right,Nat.mod_eq_of_lt hb]
 have hd:(b+p*B)/B=p:=by rw[Nat.add_mul_div_right _ _ (by omega),Nat.div_eq_of_lt hb,Nat.zero_add]
 refine⟨by simpa using h.size,fun j hj=>?_,fun e he hc=>?_⟩
 ·rw[Array.getElem?_setIfInBounds,if_neg (by omega)];exact h.dat j hj
 ·rw[Array.getElem?_setIfInBounds]
  by_cases heq:b+p*B=e
  ·subst heq
   rw[if_pos rfl,if_pos (by rw[h.size];omega)]
   simp only[valE,hm,hd]
  ·rw[if_neg (by omega)]
   refine h.chk e he ?_
   rcases hc with hc|⟨h1,h2⟩
   ·exact .inl hc
   ·refine .inr ⟨h1,?_⟩
    have h3:=Nat.div_add_mod e B
    rcases Nat.lt_or_ge (e/B) p with h4|h4
    ·exact h4
    ·have h5:e/B=p:=by omega
     rw[h5,h1,Nat.mul_comm]at h3
     omega
theorem Turn.next {cur:Array Value} {poly data:List Nat} {N C B q b p n:Nat} (h:Turn cur poly data N C B q b p) (hn:n*B=C) (hB:0<B) (hp:n≤p):Turn cur poly data N C B q (b+1) 0:=
 ⟨h.size,h.dat,fun e he hc=>h.chk e he (by
   rcases hc with hc|⟨_,hc⟩
   ·rcases(by omega:e%B<b∨e%B=b)with h1|h1
    ·exact .inl h1
    ·refine .inr ⟨h1,?_⟩
     have:e/B<n:=(Nat.div_lt_iff_lt_mul hB).2 (by omega)
     omega
   ·exact absurd hc (Nat.not_lt_zero _))⟩
theorem Turn.bytes {w:World} {g:Nat} {cur:Array Value} {poly data:List Nat} {N C B q:Nat} (h:Turn cur poly data N C B q B 0) (hB:0<B) (hN:data.length=N) (hg:w.heap[g]? =some (.cells cur 5)):
 Bytes w g (data++(List.range C).map (valE poly data B q)):=by
 refine⟨lt_of_blk hg,fun i hi=>?_⟩
 simp only[List.length_append,List.length_map,List.length_range]at hi
 rw[cell_blk hg,List.getD_eq_getElem?_getD]
 rcases Nat.lt_or_ge i N with h1|h1
 ·rw[List.getElem?_append_left (by omega),←List.getD_eq_getElem?_getD];exact h.dat i h1
 ·obtain⟨e,rfl⟩:∃e,i=N+e:=⟨i-N,by omega⟩
  rw[List.getElem?_append_right (by omega),hN,Nat.add_sub_cancel_left,List.getElem?_map,List.getElem?_range (by omega)]
  exact h.chk e (by omega) (.inl (Nat.mod_lt _ hB))
end
section
open Go.RowKit
theorem cap96 {w:World} {b:Nat} {v:Value} (h:w.cell? ⟨b,1,none⟩=some v):Calls Tryz.prog 96 #[.pointer (some ⟨b,0,none⟩)] w fun e w'=>e= .returned v∧w=w':=(getCap_calls h).mono fun _ _ ⟨h1,h2⟩=>⟨h1,h2.symm⟩
theorem err109 {w:World} {b:Nat} {v:Value} (h:w.cell? ⟨b,2,none⟩=some v):Calls Tryz.prog 109 #[.pointer (some ⟨b,0,none⟩)] w fun e w'=>e= .returned v∧w=w':=by
 go_enter Tryz.func109,Tryz.ntmps109
 go_wp2
 go_ret
 exact⟨rfl,rfl⟩
theorem app49fits {ops:Array Oper} {rest:List Oper} {o:Oper} {a:Act} {Q:Exit→Act→World→Prop} {w:World} (hgd:o.guard=none) (s x:Operand)
 (ho:o.op= .call {callee:= .builtin .append,args:= #[s,x],argTypes:= #[49,49]})
 (g cap:Nat) (hs:a.eval s= .slice (some ⟨g,0,none⟩) 0 cap) (hown:Own w g .u8 5 (.slice (some ⟨g,0,none⟩) 0 cap) [])
 (b m c:Nat) (ys:List Nat) (hx:a.eval x= .slice (some ⟨b,0,none⟩) m c) (hm:m=ys.length) (hys:Bytes w b ys) (hfit:ys.length≤cap)
 (h:∀w' cur,w'.heap[g]? =some (.cells cur 5)→cur.size=cap→(∀j,j<ys.length→cur[j]? =some (.int .u8 ((ys.getD j 0:Nat):Int)))→w.grownBy w' (some g)→wpList Tryz.prog ops Q rest (a.put o.dst (.slice (some ⟨g,0,none⟩) ys.length cap)) w'):
 wpList Tryz.prog ops Q (o::rest) a w:=by
 obtain⟨i,hi,hz,hsz,hb⟩:=info_parts Tryz.inf5
 subst hm
 refine wpList_append_fits w hgd s x 49 ho g 5 i 1 Tryz.underlying49 hi hsz g 0 cap [] hs hown ⟨b,0,none⟩ ys.length c ((nl ys).map (Value.int .u8)) hx (by simp) ?_ ?_ (by omega) ?_
 ·intro j u hj
  have hjl:j<ys.length:=by
   have:=(List.getElem?_eq_some_iff.1 hj).1;simpa using this
  rw[addr_add b j,hys.2 j hjl,←hj,←getD_nl]
  simp[hjl,nl]
 ·intro u hu
  obtain⟨y,_,rfl⟩:=List.mem_map.1 hu
  rfl
 ·intro w' h1 h2
  rw[Nat.zero_add]at h1 ⊢
  obtain⟨_,h4⟩:=h1
  rcases h4 with h4|⟨g1,c1,cur,hv,a2,a3,a4,a5,a6,a7⟩
  ·cases h4.1
  ·injection hv with hv1 hv2 hv3
   injection hv1 with hv1
   injection hv1 with hv1
   subst hv1;subst hv3
   refine h w' cur a3 (by simpa using a6) (fun j hj=>?_) h2
   have h8:(cur.toList.take (ys.length*1))[j]? =some (.int .u8 ((ys.getD j 0:Nat):Int)):=by
    rw[a7,List.nil_append,←getD_nl]
    simp[hj,nl]
   rw[Nat.mul_one,List.getElem?_take_of_lt hj]at h8
   simpa using h8
theorem Turn.own {w:World} {g base:Nat} {cur:Array Value} {poly data:List Nat} {N C B q:Nat} (h:Turn cur poly data N C B q B 0) (hB:0<B) (hN:data.length=N) (hg:w.heap[g]? =some (.cells cur 5)) (hb:base≤g) (hm:N+C≤100000):
 Own w base .u8 5 (.slice (some ⟨g,0,none⟩) (N+C) (N+C)) (data++(List.range C).map (valE poly data B q)):=by
 have hby:=h.bytes hB hN hg
 have hlen:(data++(List.range C).map (valE poly data B q)).length=N+C:=by simp[hN]
 refine⟨by simp,.inr ⟨g,N+C,cur,by rw[hlen],hb,hg,by omega,by simp only[maxLen];omega,by simpa using h.size,?_⟩⟩
 rw[Nat.mul_one,hlen]
 apply List.ext_getElem?
 intro j
 by_cases hj:j<N+C
 ·rw[List.getElem?_take_of_lt hj]
  have h1:=hby.2 j (by rw[hlen];exact hj)
  rw[cell_blk hg]at h1
  rw[Array.getElem?_toList,h1,←getD_nl]
  simp only[nl,List.map_map,List.getElem?_map,List.getD_eq_getElem?_getD]
  rw[List.getElem?_eq_getElem (by rw[hlen];exact hj)]
  simp
 ·rw[List.getElem?_eq_none (by have:=h.size;simp;omega),List.getElem?_eq_none (by simp[nl,hN];omega)]
set_option maxRecDepth 100000 in
set_option maxHeartbeats 8000000 in
theorem encM_calls {b i cb cap:Nat} {data:List Nat} {w:World} (hi:i<29) (h:w.heap[b]? =some (.cells (siOf i) 112)) {N C B q n:Nat} (hN:dataOf i=(N:Int)) (hC:checkOf i=(C:Int)) (hB:nbOf i=(B:Int)) (hq:rbdOf i=(q:Int)) (hn:rbeOf i=(n:Int))
 (hB2:2≤B) (hl:data.length=N) (hs:Small data) (hcw:Bytes w cb data):
 Calls Tryz.prog 59 #[.slice (some ⟨cb,0,none⟩) data.length cap,.pointer (some ⟨b,0,none⟩)] w (EncPost (data++(List.range C).map (valE (facN (tOf i)) data B q)) w):=by
 obtain⟨n1,n2,n3,n4,n5,n6,n7,n8,n9,n10,n11,n12⟩:=nums i hi
 obtain⟨t1,t2⟩:=tOf_ok i hi
 have c1:=si_data h
 have c2:=si_check h
 rw[hN]at c1 n1 n2 n11
 rw[hC]at c2 n3 n4 n12
 rw[hB]at n9 n10 n11 n12
 rw[hq]at n5 n6 n11
 rw[hn]at n7 n8 n12 t2
 have e1:q*B=N:=by have:((B*q:Nat):Int)=(N:Int):=by simpa using n11
                   rw[Nat.mul_comm];omega
 have e2:n*B=C:=by have:((B*n:Nat):Int)=(C:Int):=by simpa using n12
                   rw[Nat.mul_comm];omega
 have ht2:(facN (tOf i)).length=n:=by omega
 have H:=Lib.hid h
 have HB:=Lib.hid hB
 have HQ:=Lib.hid hq
 have HNN:=Lib.hid hn
 have HCW:=Lib.hid hcw
 have HS:=Lib.hid hs
 have HL:=Lib.hid hl
 have E1:=Lib.hid e1
 have E2:=Lib.hid e2
 have HT:=Lib.hid ht2
 have hbl:=lt_of_blk h
 have hcl:=hcw.1
 obtain⟨poly,hpoly⟩:∃poly,poly=facN (tOf i):=⟨_,rfl⟩
 rw[←hpoly]
 have HP:=Lib.hid hpoly
 have hmk:=make49 0 ((N:Int)+(C:Int)) (by omega) (by omega) (by omega)
 rw[show ((N:Int)+(C:Int)).toNat=N+C by omega]at hmk
 have hmb:=make28 (B:Int) (by omega) (by omega)
 rw[Int.toNat_natCast]at hmb
 have hB1:((B:Int)==1)=false:=by rw[beq_eq_false_iff_ne];omega
 clear h hB hq hn hcw hs e1 e2 ht2 n11 n12 hpoly t2 hN hC
 rw[hl]
 clear hl
 go_enter Tryz.func59,Tryz.ntmps59
 go_wp2_with (first|(refine app49fits rfl (.tmp 34) (.tmp 35) rfl w.heap.size (N+C) rfl (Own.of_room (c:=N+C) (new_last rfl _) (by simp) (Nat.le_refl _) (by simp only[maxLen];omega)) cb N cap data rfl HL.out.symm (HCW.out.alloc _) (by rw[HL.out];omega) ?_;intro w1 cur hcur hcz hcd hg1;have HCU:=Lib.hid hcur;have HCZ:=Lib.hid hcz;have HCD:=Lib.hid hcd;have HB1:=Lib.hid (((Below.refl w.heap.size w).alloc (Nat.le_refl _) _).grown hg1 (by simp) (fun g e=>by injection e with e;omega));have H1:=Lib.hid ((HB1.out.block b hbl).trans H.out);rw[HL.out];clear hcur hcz hcd hg1)|(go_at_call 96;refine(cap96 c1).mono ?_;rintro e w9 ⟨rfl,rfl⟩)|(go_at_call 109;refine(err109 c2).mono ?_;rintro e w9 ⟨rfl,rfl⟩)|(go_at_call 110;refine(nb_calls b i _ hi H1.out).mono ?_;rintro e w8 ⟨rfl,nn,rfl⟩;rw[HB.out]))
 have z1:=HB1.out.size
 have zw:=lt_of_blk HCU.out
 clear hmk hmb
 go_loopw [12] (fun c wr=>∃k:Nat,k≤B∧c= .int .i64 k∧Hid (Row wr w1.heap.size .i64 3 (nl (fillN B k q)))∧Hid (Row wr (w1.heap.size+1) .i64 3 (nl (fillN B k n)))∧Hid (Below w1.heap.size w1 wr)) (fun c _=>B-(intOf c).toNat)
 case atStart=>
  refine⟨0,by omega,rfl,?_,?_,below_dr (((Below.refl _ _).alloc (Nat.le_refl _) _).alloc (by simp) _) nn⟩
  ·rw[fillN_zero,←zs_nl];exact((Row.new w1 .i64 3 (zs B)).alloc _).drewN nn
  ·rw[fillN_zero,←zs_nl];exact Row.drewN (new_last (by simp) _) nn
 case round=>
  obtain⟨k,hk,rfl,hr1,hr2,hb⟩:=hrel
  have h1r:=(hb.out.block b (by omega)).trans H1.out
  have H1R:=Lib.hid h1r
  clear h1r
  by_cases hlt:k<B
  ·have x1:=hr1.out.cell (i:=k) (by rw[length_nl,fillN_len hk];exact hlt)
   have f1:=hr1.out.free k
   have hs1:=hr1.out.set k (q:Int)
   rw[set_nl,fillN_set hlt]at hs1
   have x2:=hr2.out.cell (i:=k) (by rw[length_nl,fillN_len hk];exact hlt)
   have f2:=hr2.out.free k
   have y2:=(hr2.out.set_ne (a:=⟨w1.heap.size,k,none⟩) (by simp) (.int .i64 q)).cell (i:=k) (by rw[length_nl,fillN_len hk];exact hlt)
   have g2:=(hr2.out.set_ne (a:=⟨w1.heap.size,k,none⟩) (by simp) (.int .i64 q)).free k
   have hs2:=(hr2.out.set_ne (a:=⟨w1.heap.size,k,none⟩) (by simp) (.int .i64 q)).set k (n:Int)
   rw[set_nl,fillN_set hlt]at hs2
   have hs3:=hs1.set_ne (a:=⟨w1.heap.size+1,k,none⟩) (by simp) (.int .i64 n)
   have S2:=Lib.hid hs2
   have S3:=Lib.hid hs3
   have SB:=Lib.hid ((hb.out.setCell (p:=⟨w1.heap.size,k,none⟩) (Nat.le_refl _) (.int .i64 q)).setCell (p:=⟨w1.heap.size+1,k,none⟩) (by simp) (.int .i64 n))
   have H1S:=Lib.hid ((Below.heap_setCell wr ⟨w1.heap.size,k,none⟩ (.int .i64 q) b (by simp;omega)).trans H1R.out)
   have hki:(k:Int)<(B:Int):=by omega
   clear hs1 hs2 hs3 x2 f2
   go_wp2_with (first|(go_at_call 112;refine(dl_calls hi H1R.out _).mono ?_;rintro e w9 ⟨rfl,rfl⟩;rw[HQ.out])|(go_at_call 113;refine(el_calls H1S.out _).mono ?_;rintro e w9 ⟨rfl,rfl⟩;rw[HNN.out]))
   exact⟨⟨k+1,by omega,by go_num,S3,S2,SB⟩,by simp[intOf];omega⟩
  ·obtain rfl:B=k:=by omega
   obtain⟨wa,rfl⟩:∃wa:World,wa=wr:=⟨_,rfl⟩
   have za:=hb.out.size
   have zl1:=hr1.out.lt
   have zl2:=hr2.out.lt
   go_wp2
   have hbu0:But w.heap.size w1 wa:=But.of hb.out zw
   have HBU0:=Lib.hid hbu0
   have HROW1:=Lib.hid hr1.out
   have HROW2:=Lib.hid hr2.out
   clear hr1 hr2 hbu0 H1R
   go_loopw [13] (fun c wr=>∃k:Nat,k≤B∧c= .int .i64 k∧∃cu,Hid (wr.heap[w.heap.size]? =some (.cells cu 5))∧Hid (Turn cu poly data N C B q k 0)∧Hid (Row wr w1.heap.size .i64 3 (nl (fillN B B q)))∧Hid (Row wr (w1.heap.size+1) .i64 3 (nl (fillN B B n)))∧Hid (But w.heap.size w1 wr)) (fun c _=>B-(intOf c).toNat)
   case atStart=>exact⟨0,by omega,rfl,cur,(hb.out.block _ zw).trans HCU.out,⟨HCZ.out,fun j hj=>HCD.out j (by rw[HL.out];exact hj),fun e he hc=>by rcases hc with hc|⟨_,hc⟩<;>exact absurd hc (Nat.not_lt_zero _)⟩,HROW1.out,HROW2.out,HBU0.out⟩
   case round=>
    obtain⟨k,hk,rfl,cu,hcu,htu,hr1,hr2,hbu⟩:=hrel
    by_cases hlt:k<B
    ·obtain⟨wo,rfl⟩:∃wo:World,wo=wr:=⟨_,rfl⟩
     have zo:=hbu.out.size
     have zr2:=hr2.out.lt
     have x1:=hr1.out.cell (i:=k) (by rw[length_nl,fillN_len (Nat.le_refl _)];exact hlt)
     rw[getD_nl,fillN_get hlt]at x1
     have x2:=hr2.out.cell (i:=k) (by rw[length_nl,fillN_len (Nat.le_refl _)];exact hlt)
     rw[getD_nl,fillN_get hlt]at x2
     have hki:(k:Int)<(B:Int):=by omega
     have hmq:=make49 0 (q:Int) (by omega) (by omega) (by omega)
     rw[Int.toNat_natCast]at hmq
     go_wp2
     clear x1 x2 hmq
     have hcwo:Bytes wo cb data:=⟨by omega,fun j hj=>(World.cell?_of_block (a:=⟨cb,j,none⟩) (hbu.out.rest cb (by omega) (by omega))).trans ((HCW.out.below HB1.out hcl).2 j hj)⟩
     have hbo:wo.heap[b]? =some (.cells (siOf i) 112):=(hbu.out.rest b (by omega) (fun e=>by
      have h8:=HCU.out
      rw[←e,H1.out]at h8;injection h8 with h8;injection h8 with _ h8;exact absurd h8 (by decide))).trans H1.out
     have HCO:=Lib.hid hcwo
     have HBO:=Lib.hid hbo
     clear hcwo hbo
     go_loopw [14,15] (fun tm d wi=>∃m:Nat,m≤q∧d= .int .i64 ((k+m*B:Nat):Int)∧Hid (Own wi wo.heap.size .u8 5 tm (blockTo data B k m))∧Hid (Below wo.heap.size wo wi)) (fun _ d _=>N+B-(intOf d).toNat)
     case atStart=>exact⟨0,by omega,by simp,Own.of_room (c:=q) (new_last rfl _) (by simp) (Nat.le_refl _) (by simp only[maxLen];omega),(Below.refl _ _).alloc (Nat.le_refl _) _⟩
     case round=>
      obtain⟨m,hm,rfl,ho,hbi⟩:=hrel
      have hbr:=(hbi.out.block b (by omega)).trans HBO.out
      have c1r:wr.cell? ⟨b,1,none⟩=some (.int .i64 (N:Int)):=(World.cell?_of_block (a:=⟨b,1,none⟩) (hbr.trans H1.out.symm)).trans ((World.cell?_of_block (a:=⟨b,1,none⟩) (HB1.out.block b hbl)).trans c1)
      clear hbr
      by_cases hml:m<q
      ·have hmul:(m+1)*B≤q*B:=Nat.mul_le_mul_right _ hml
       have e1:=E1.out
       rw[Nat.add_mul,Nat.one_mul]at hmul
       have hidx:k+m*B<N:=by omega
       obtain⟨x,hx⟩:∃x,x=k+m*B:=⟨_,rfl⟩
       have cx:=(HCO.out.below hbi.out HCO.out.1).2 x (by rw[HL.out];omega)
       have hsn:=blockTo_succ data B k m
       rw[←hx]at hidx hsn ⊢
       have hx2:x+B=k+(m+1)*B:=by rw[hx,Nat.add_mul];omega
       have HX2:=Lib.hid hx2
       obtain⟨z,hz⟩:∃z,z=data.getD x 0:=⟨_,rfl⟩
       rw[←hz]at cx hsn
       have HSN:=Lib.hid hsn
       have hxi:(x:Int)<(N:Int):=by omega
       have hmq2:m≤N:=by have:=Nat.le_mul_of_pos_right m (show 0<B by omega);omega
       have HLL:=Lib.hid (blockTo_len data B k m)
       clear hx hx2 hsn hz e1 hmul
       go_wp2_with (first|(go_at_call 96;refine(cap96 c1r).mono ?_;rintro e w9 ⟨rfl,rfl⟩)|(refine app49 rfl (.tmp 100) (.tmp 105) rfl wo.heap.size _ (blockTo data B k m) rfl (ho.out.alloc _) _ 1 1 [z] rfl rfl (Bytes.one rfl) (by have h9:=HLL.out;simp;omega) (by have h9:=hbi.out.size;simp;omega) ?_;intro v' w' ho2 hg hne;rw[HSN.out]at ho2;have HO:=Lib.hid ho2;have HB7:=Lib.hid ((hbi.out.alloc hbi.out.size (.cells #[.int .u8 z] 5)).grown hg (by have h9:=hbi.out.size;simp;omega) (fun g2 e=>(ho.out.lt g2 e).1));clear ho2 hg hne))
       exact⟨⟨m+1,by omega,by rw[←HX2.out];simp,HO,HB7⟩,by simp[intOf];omega⟩
      ·obtain rfl:q=m:=by omega
       have e1:=E1.out
       obtain⟨x,hx⟩:∃x,x=k+q*B:=⟨_,rfl⟩
       rw[←hx]
       have hge:¬(x:Int)<(N:Int):=by omega
       obtain⟨tg,tc,hv⟩:=ho.out.slice (by rw[blockTo_len];omega)
       rw[blockTo_len]at hv
       subst hv
       obtain⟨wc,rfl⟩:∃wc:World,wc=wr:=⟨_,rfl⟩
       have hbc:=hbu.out.trans hbi.out zo zw
       have hr1c:=hr1.out.below hbi.out (by omega)
       have hr2c:=hr2.out.below hbi.out zr2
       have x2:=hr2c.cell (i:=k) (by rw[length_nl,fillN_len (Nat.le_refl _)];exact hlt)
       rw[getD_nl,fillN_get hlt]at x2
       have hcuc:=(hbi.out.block _ (by omega)).trans hcu.out
       have hek:∀wx,Bytes wx tg (blockTo data B k q)→Calls Tryz.prog 111 #[.slice (some ⟨tg,0,none⟩) q tc,.int .i64 n] wx (EccPost poly (blockTo data B k q) wx):=fun wx h=>by
        have h8:=ecc_calls (tOf i) t1 (blockTo data B k q) tg tc wx (by rw[blockTo_len];omega) (small_block HS.out B k q) h
        rw[blockTo_len,HT.out,←HP.out]at h8
        exact h8
       have HEK:=Lib.hid hek
       have HPL:=Lib.hid (show poly.length=n by rw[HP.out];exact HT.out)
       have hob:Bytes wc tg (blockTo data B k q):=by
        have h8:=ho.out
        rw[show (Value.slice (some ⟨tg,0,none⟩) q tc)=Value.slice (some ⟨tg,0,none⟩) (blockTo data B k q).length tc by rw[blockTo_len]]at h8
        exact h8.bytes
       have HOB:=Lib.hid hob
       have HR1C:=Lib.hid hr1c
       have HR2C:=Lib.hid hr2c
       have HCUC:=Lib.hid hcuc
       have HBC:=Lib.hid hbc
       clear hx e1 hek hob hr1c hr2c hcuc hbc
       go_wp2_with (first|(go_at_call 96;refine(cap96 c1r).mono ?_;rintro e w9 ⟨rfl,rfl⟩)|(go_at_call 111;refine(HEK.out _ HOB.out).mono ?_;rintro e w5 ⟨rb,hrb,rfl,hrow,hb5⟩;rw[HPL.out];have R5:=Lib.hid hrow;have B5:=Lib.hid hb5;clear hrow hb5))
       have zc:=HBC.out.size
       have zc2:=hbi.out.size
       have hbu5:=HBC.out.trans B5.out zc zw
       have hcu5:=(B5.out.block _ (by omega)).trans HCUC.out
       have hr15:=HR1C.out.below B5.out (by omega)
       have hr25:=HR2C.out.below B5.out (by omega)
       have hmulI:(n:Int)*(B:Int)=(C:Int):=by have h9:=E2.out;have:((n*B:Nat):Int)=(C:Int):=by rw[h9]
                                              simpa using this
       have hmw:IntKind.i64.wrap ((n:Int)*(B:Int))=(C:Int):=by rw[hmulI];exact IntWalk.i64_in _ (by omega)
       have HPOLY:=Lib.hid HPL.out
       go_loopw [18,19] (fun ps es wi=>∃p:Nat,p≤n∧ps= .int .i64 p∧es= .int .i64 ((k+p*B:Nat):Int)∧∃c5,Hid (wi.heap[w.heap.size]? =some (.cells c5 5))∧Hid (Turn c5 poly data N C B q k p)∧Hid (Row wi w1.heap.size .i64 3 (nl (fillN B B q)))∧Hid (Row wi (w1.heap.size+1) .i64 3 (nl (fillN B B n)))∧Hid (Row wi rb .u8 5 (nl (eccOut poly (blockTo data B k q))))∧Hid (But w.heap.size w1 wi)) (fun ps _ _=>n-(intOf ps).toNat)
       case atStart=>exact⟨0,by omega,rfl,by simp,cu,hcu5,htu.out,hr15,hr25,R5.out,hbu5⟩
       case round=>
        obtain⟨p,hp,rfl,rfl,c5,hc5,ht5,hr15,hr25,hrb5,hbu5⟩:=hrel
        have hbr:=(hbu5.out.rest b (by omega) (fun e=>by
         have h8:=HCU.out
         rw[←e,H1.out]at h8;injection h8 with h8;injection h8 with _ h8;exact absurd h8 (by decide)))
        have c1q:wr.cell? ⟨b,1,none⟩=some (.int .i64 (N:Int)):=(World.cell?_of_block (a:=⟨b,1,none⟩) hbr).trans ((World.cell?_of_block (a:=⟨b,1,none⟩) (HB1.out.block b hbl)).trans c1)
        have x2:=hr25.out.cell (i:=k) (by rw[length_nl,fillN_len (Nat.le_refl _)];exact hlt)
        rw[getD_nl,fillN_get hlt]at x2
        clear hbr
        by_cases hpl:p<n
        ·have hmul:(p+1)*B≤n*B:=Nat.mul_le_mul_right _ hpl
         have e2:=E2.out
         rw[Nat.add_mul,Nat.one_mul]at hmul
         have hidx:k+p*B<C:=by omega
         have hput:=ht5.out.put hlt hidx
         have xr:=hrb5.out.cell (i:=p) (by rw[length_nl,eccOut_len,HPOLY.out];exact hpl)
         rw[getD_nl]at xr
         obtain⟨x,hx⟩:∃x,x=k+p*B:=⟨_,rfl⟩
         rw[←hx]at hidx hput ⊢
         have hx2:x+B=k+(p+1)*B:=by rw[hx,Nat.add_mul];omega
         have HX2:=Lib.hid hx2
         obtain⟨z,hz⟩:∃z,z=(eccOut poly (blockTo data B k q)).getD p 0:=⟨_,rfl⟩
         rw[←hz]at xr hput
         obtain⟨u,hu⟩:∃u,c5[N+x]? =some u:=⟨_,Array.getElem?_eq_getElem (by rw[ht5.out.size];omega)⟩
         have cu5:wr.cell? ⟨w.heap.size,N+x,none⟩=some u:=(cell_blk hc5.out (N+x)).trans hu
         have fu5:=frozen_blk hc5.out (N+x)
         have HPUT:=Lib.hid hput
         have HC6:=Lib.hid (heap_setCell_at hc5.out (N+x) (.int .u8 (z:Int)))
         have HR16:=Lib.hid (hr15.out.set_ne (a:=⟨w.heap.size,N+x,none⟩) (by simp;omega) (.int .u8 (z:Int)))
         have HR26:=Lib.hid (hr25.out.set_ne (a:=⟨w.heap.size,N+x,none⟩) (by simp;omega) (.int .u8 (z:Int)))
         have HRB6:=Lib.hid (hrb5.out.set_ne (a:=⟨w.heap.size,N+x,none⟩) (by simp;omega) (.int .u8 (z:Int)))
         have HBU6:Hid (But w.heap.size w1 (wr.setCell ⟨w.heap.size,N+x,none⟩ (.int .u8 (z:Int)))):=Lib.hid ⟨hbu5.out.below.setCell (p:=⟨w.heap.size,N+x,none⟩) (Nat.le_refl _) _,fun bb h8 h9=>(Below.heap_setCell _ _ _ _ h9).trans (hbu5.out.rest bb h8 h9)⟩
         have sw:IntKind.i64.wrap ((N:Int)+(x:Int))=(N:Int)+(x:Int):=IntWalk.i64_in _ (by omega)
         have sb:(0:Int)≤(N:Int)+(x:Int):=by omega
         have sn:((N:Int)+(x:Int)).toNat=N+x:=by omega
         have sl:(N:Int)+(x:Int)<((N+C:Nat):Int):=by omega
         have spi:(p:Int)<(n:Int):=by omega
         have hki:(k:Int)<(B:Int):=by omega
         have hxi:(x:Int)<(C:Int):=by omega
         clear hput hz hx hx2 hu hmul e2
         have gc:=getCap_calls (w:=wr.drew) (b:=b) (v:= .int .i64 (N:Int)) c1q
         have GC:=Lib.hid gc
         clear gc
         go_wp2
         go_still_tail 10,(by kernel_rfl)
         still_call GC.out
         repeat still_step
         refine wpStill_nil ?_
         go_wp2
         exact⟨⟨p+1,by omega,by go_num,by rw[←HX2.out];simp,_,HC6.out,HPUT,HR16.out.drew,HR26.out.drew,HRB6.out.drew,⟨below_dr HBU6.out.below 1,HBU6.out.rest⟩⟩,by simp[intOf];omega⟩
        ·obtain rfl:n=p:=by omega
         have e2:=E2.out
         obtain⟨x,hx⟩:∃x,x=k+n*B:=⟨_,rfl⟩
         rw[←hx]
         have hge:¬(x:Int)<(C:Int):=by omega
         have hki:(k:Int)<(B:Int):=by omega
         have HTN:=Lib.hid (ht5.out.next E2.out (by omega) (Nat.le_refl _))
         clear hx e2
         go_wp2
         exact⟨⟨k+1,by omega,by go_num,c5,hc5,HTN,hr15,hr25,hbu5⟩,by simp[intOf];omega⟩
    ·obtain rfl:B=k:=by omega
     go_wp2
     go_ret2
     have z9:=hbu.out.size
     exact⟨_,rfl,htu.out.own (by omega) HL.out hcu.out (by omega) (by omega),⟨hbu.out.below.os.trans HB1.out.os,hbu.out.below.tape.trans HB1.out.tape,hbu.out.below.output.trans HB1.out.output,by omega,fun bb h8=>(hbu.out.below.block bb h8).trans (HB1.out.block bb h8)⟩⟩
end
section
open Go.RowKit
theorem newDim_calls (W H:Int) (h1:0≤W) (h2:0≤H) (w:World):
 Calls Tryz.prog 108 #[.int .i64 W,.int .i64 H] w fun e w'=>e= .returned (.tuple #[.pointer (some ⟨w.heap.size,0,none⟩),.nilIface])∧w.alloc (.cells #[.int .i64 W,.int .i64 H] 156)=w':=by
 have g1:¬W<0:=by omega
 have g2:¬H<0:=by omega
 go_enter Tryz.func108,Tryz.ntmps108
 go_wp2
 go_ret2
 exact⟨rfl,rfl⟩
theorem dimW_calls {w:World} {d:Nat} {v:Value} (h:w.cell? ⟨d,0,none⟩=some v):Calls Tryz.prog 72 #[.pointer (some ⟨d,0,none⟩)] w fun e w'=>e= .returned v∧w=w':=by
 go_enter Tryz.func72,Tryz.ntmps72
 go_wp2
 go_ret
 exact⟨rfl,rfl⟩
theorem dimH_calls {w:World} {d:Nat} {v:Value} (h:w.cell? ⟨d,1,none⟩=some v):Calls Tryz.prog 73 #[.pointer (some ⟨d,0,none⟩)] w fun e w'=>e= .returned v∧w=w':=by
 go_enter Tryz.func73,Tryz.ntmps73
 go_wp2
 go_ret
 exact⟨rfl,rfl⟩
theorem sizes_apart:∀i,i<29→∀k,k<i→¬(swOf k=swOf i∧shOf k=shOf i):=by decide+kernel
theorem data_pos:∀i,i<29→(0:Int)≤dataOf i:=by decide+kernel
def LookSz (i:Nat) (w:World) (e:Ending) (w':World):Prop:=
 ∃b,e= .returned (.tuple #[.pointer (some ⟨b,0,none⟩),.nilIface])∧w'.heap[b]? =some (.cells (siOf i) 112)∧Below w.heap.size w w'
set_option maxRecDepth 100000 in
set_option maxHeartbeats 4000000 in
theorem lookSz_calls {i d:Nat} {w:World} (hi:i<29) (hd:w.heap[d]? =some (.cells #[.int .i64 (swOf i),.int .i64 (shOf i)] 156)):
 Calls Tryz.prog 42 #[.int .i64 0,.int .i64 0,.pointer (some ⟨d,0,none⟩),.pointer (some ⟨d,0,none⟩),.bool true] w (LookSz i w):=by
 have hdl:=lt_of_blk hd
 have HD:=Lib.hid hd
 have hap:=sizes_apart i hi
 have HAP:=Lib.hid hap
 have hdp:=data_pos i hi
 obtain⟨W,hW⟩:∃W,W=swOf i:=⟨_,rfl⟩
 obtain⟨H,hH⟩:∃H,H=shOf i:=⟨_,rfl⟩
 rw[←hW,←hH]at HD HAP
 have HW:=Lib.hid hW
 have HH:=Lib.hid hH
 clear hd hap hW hH
 go_enter Tryz.func42,Tryz.ntmps42
 go_wp2_with (go_at_call 71;refine(symbols_calls _).mono ?_;rintro e w1 ⟨rfl,hsy,hb,hz⟩)
 have hz':w.heap.size+31≤w1.heap.size:=by omega
 have hd1:=(hb.block d hdl).trans HD.out
 have HD1:=Lib.hid hd1
 have HSY:=Lib.hid hsy
 have HB:=Lib.hid hb
 clear hz hd1 hsy hb
 go_loopw [16] (fun c wr=>∃k:Nat,k≤i∧c= .int .i64 k∧∃n,wr=w1.drewN n) (fun c _=>i-(intOf c).toNat)
 case atStart=>exact⟨0,by omega,rfl,0,rfl⟩
 case round=>
  obtain⟨k,hk,rfl,n,rfl⟩:=hrel
  have hk30:k<30:=by omega
  have hc:=HSY.out.ptr k hk30
  have hb0:=HSY.out.si k hk30
  have c0:=si_rect hb0
  have c1:=si_data hb0
  have HB0:=Lib.hid hb0
  have x0:w1.cell? ⟨d,0,none⟩=some (.int .i64 W):=(cell_blk HD1.out 0).trans rfl
  have x1:w1.cell? ⟨d,1,none⟩=some (.int .i64 H):=(cell_blk HD1.out 1).trans rfl
  clear hb0
  have gw:∀m,Calls Tryz.prog 44 #[.pointer (some ⟨w.heap.size+k,0,none⟩)] (w1.drewN m) fun e w'=>e= .returned (.int .i64 (swOf k))∧∃n,w'=(w1.drewN m).drewN n:=fun m=>sw_calls _ k _ hk30 (blk_drewN HB0.out)
  have gh:∀m,Calls Tryz.prog 43 #[.pointer (some ⟨w.heap.size+k,0,none⟩)] (w1.drewN m) fun e w'=>e= .returned (.int .i64 (shOf k))∧∃n,w'=(w1.drewN m).drewN n:=fun m=>sh_calls _ k _ hk30 (blk_drewN HB0.out)
  have GW:=Lib.hid gw
  have GH:=Lib.hid gh
  clear gw gh
  have hne:¬(swOf k=W∧shOf k=H)→k<i:=fun h=>by
   rcases Nat.lt_or_ge k i with h9|h9
   ·exact h9
   ·obtain rfl:k=i:=by omega
    exact absurd ⟨HW.out.symm,HH.out.symm⟩ h
  have HNE:=Lib.hid hne
  have hkd:k=i→(0:Int)≤dataOf k:=fun e=>by rw[e];exact hdp
  have HKD:=Lib.hid hkd
  clear hne hkd hdp
  by_cases a1:swOf k<W
  ·have hki:=HNE.out (fun h=>by omega)
   go_wp2_with (first|(go_at_call 44;refine(GW.out _).mono ?_;rintro e w9 ⟨rfl,m1,rfl⟩)|(go_at_call 43;refine(GH.out _).mono ?_;rintro e w9 ⟨rfl,m2,rfl⟩)|(go_at_call 72;refine(dimW_calls (w:=w1.drewN _) x0).mono ?_;rintro e w9 ⟨rfl,rfl⟩)|(go_at_call 73;refine(dimH_calls (w:=w1.drewN _) x1).mono ?_;rintro e w9 ⟨rfl,rfl⟩))
   exact⟨⟨k+1,by omega,by go_num,_,rfl⟩,by simp[intOf];omega⟩
  ·by_cases a2:shOf k<H
   ·have hki:=HNE.out (fun h=>by omega)
    go_wp2_with (first|(go_at_call 44;refine(GW.out _).mono ?_;rintro e w9 ⟨rfl,m1,rfl⟩)|(go_at_call 43;refine(GH.out _).mono ?_;rintro e w9 ⟨rfl,m2,rfl⟩)|(go_at_call 72;refine(dimW_calls (w:=w1.drewN _) x0).mono ?_;rintro e w9 ⟨rfl,rfl⟩)|(go_at_call 73;refine(dimH_calls (w:=w1.drewN _) x1).mono ?_;rintro e w9 ⟨rfl,rfl⟩))
    exact⟨⟨k+1,by omega,by go_num,_,rfl⟩,by simp[intOf];omega⟩
   ·by_cases a3:W<swOf k
    ·have hki:=HNE.out (fun h=>by omega)
     go_wp2_with (first|(go_at_call 44;refine(GW.out _).mono ?_;rintro e w9 ⟨rfl,m1,rfl⟩)|(go_at_call 43;refine(GH.out _).mono ?_;rintro e w9 ⟨rfl,m2,rfl⟩)|(go_at_call 72;refine(dimW_calls (w:=w1.drewN _) x0).mono ?_;rintro e w9 ⟨rfl,rfl⟩)|(go_at_call 73;refine(dimH_calls (w:=w1.drewN _) x1).mono ?_;rintro e w9 ⟨rfl,rfl⟩))
     exact⟨⟨k+1,by omega,by go_num,_,rfl⟩,by simp[intOf];omega⟩
    ·by_cases a4:H<shOf k
     ·have hki:=HNE.out (fun h=>by omega)
      go_wp2_with (first|(go_at_call 44;refine(GW.out _).mono ?_;rintro e w9 ⟨rfl,m1,rfl⟩)|(go_at_call 43;refine(GH.out _).mono ?_;rintro e w9 ⟨rfl,m2,rfl⟩)|(go_at_call 72;refine(dimW_calls (w:=w1.drewN _) x0).mono ?_;rintro e w9 ⟨rfl,rfl⟩)|(go_at_call 73;refine(dimH_calls (w:=w1.drewN _) x1).mono ?_;rintro e w9 ⟨rfl,rfl⟩))
      exact⟨⟨k+1,by omega,by go_num,_,rfl⟩,by simp[intOf];omega⟩
     ·have hke:k=i:=by
       rcases Nat.lt_or_ge k i with h9|h9
       ·exact absurd ⟨by omega,by omega⟩ (HAP.out k h9)
       ·omega
      have hd0:=HKD.out hke
      have HKE:=Lib.hid hke
      clear hke
      go_wp2_with (first|(go_at_call 44;refine(GW.out _).mono ?_;rintro e w9 ⟨rfl,m1,rfl⟩)|(go_at_call 43;refine(GH.out _).mono ?_;rintro e w9 ⟨rfl,m2,rfl⟩)|(go_at_call 72;refine(dimW_calls (w:=w1.drewN _) x0).mono ?_;rintro e w9 ⟨rfl,rfl⟩)|(go_at_call 73;refine(dimH_calls (w:=w1.drewN _) x1).mono ?_;rintro e w9 ⟨rfl,rfl⟩))
      go_ret2
      exact⟨_,rfl,by rw[←HKE.out];exact HB0.out,below_dr HB.out _⟩
end
section
open Go.RowKit
theorem implSym_calls {i:Nat} (hi:i<29) (w:World):
 Calls Tryz.prog 58 #[.int .i64 (shOf i),.int .i64 (swOf i)] w fun e w'=>∃b,e= .returned (.tuple #[.pointer (some ⟨b,0,none⟩),.bool true])∧w'.heap[b]? =some (.cells (siOf i) 112)∧Below w.heap.size w w':=by
 have hp:(0:Int)≤swOf i∧(0:Int)≤shOf i:=(by decide+kernel:∀i,i<29→(0:Int)≤swOf i∧(0:Int)≤shOf i) i hi
 go_enter Tryz.func58,Tryz.ntmps58
 go_wp2_with (first|(go_at_call 108;refine(newDim_calls _ _ hp.1 hp.2 _).mono ?_;rintro e w1 ⟨rfl,rfl⟩)|(go_at_call 42;refine(lookSz_calls hi (new_last rfl _)).mono ?_;rintro e w2 ⟨b,rfl,hsi,hb⟩;have HSI:=Lib.hid hsi;have HB:=Lib.hid hb;clear hsi hb))
 go_ret2
 exact⟨b,rfl,HSI.out,((Below.refl _ _).alloc (Nat.le_refl _) _).trans (HB.out.mono (by simp))⟩
def pkgIx (j:Nat):Nat:=((List.range 30).find? fun i=>decide (swOf i=(syN j 1:Int))&&decide (shOf i=(syN j 0:Int))).getD 30
theorem pkg_ok:∀j,j<29→pkgIx j<29∧shOf (pkgIx j)=(syN j 0:Int)∧swOf (pkgIx j)=(syN j 1:Int)∧dataOf (pkgIx j)=(syN j 4:Int)∧checkOf (pkgIx j)=(syN j 5:Int)∧nbOf (pkgIx j)=(syN j 6:Int)∧
 rbdOf (pkgIx j)=((syN j 4/syN j 6:Nat):Int)∧rbeOf (pkgIx j)=((syN j 5/syN j 6:Nat):Int):=by decide+kernel
theorem map_getDK (xs:List Nat):(List.range xs.length).map (fun e=>xs.getD e 0)=xs:=by
 refine ext_getD (by simp) fun i hi=>?_
 simp only[List.length_map,List.length_range]at hi
 rw[List.getD_eq_getElem?_getD,List.getElem?_map,List.getElem?_range hi];rfl
theorem block_one (data:List Nat):blockTo data 1 0 data.length=data:=by
 have:blockTo data 1 0 data.length=(List.range data.length).map (fun e=>data.getD e 0):=by
  unfold blockTo;congr 1;funext j;congr 1;omega
 rw[this,map_getDK]
theorem words_eq {j:Nat} (hj:j<29) {data:List Nat} (hs:Small data):
 wordsN j data=data++(List.range (syN j 5)).map (valE (facN (tOf (pkgIx j))) data (syN j 6) (syN j 4/syN j 6)):=by
 obtain⟨h1,_,_,_,_,_,_,h8⟩:=pkg_ok j hj
 obtain⟨t1,t2⟩:=tOf_ok _ h1
 have hn:(facN (tOf (pkgIx j))).length=syN j 5/syN j 6:=by rw[h8]at t2;omega
 unfold wordsN wordsG
 congr 1
 apply List.map_congr_left
 intro e _
 rw[tailN,valE,←hn,check_ecc t1 (mem_of_small (small_block hs _ _ _))]
theorem encAll_calls {j b cb cap:Nat} {data:List Nat} {w:World} (hj:j<29) (h:w.heap[b]? =some (.cells (siOf (pkgIx j)) 112)) (hl:data.length=syN j 4) (hs:Small data) (hcw:Bytes w cb data):
 Calls Tryz.prog 59 #[.slice (some ⟨cb,0,none⟩) data.length cap,.pointer (some ⟨b,0,none⟩)] w (EncPost (wordsN j data) w):=by
 obtain⟨h1,h2,h3,h4,h5,h6,h7,h8⟩:=pkg_ok j hj
 obtain⟨t1,t2⟩:=tOf_ok _ h1
 have hn:(facN (tOf (pkgIx j))).length=syN j 5/syN j 6:=by rw[h8]at t2;omega
 obtain⟨_,_,_,_,d5,_⟩:=sy_bd j hj
 obtain⟨e1,e2,_⟩:=sy_block j hj
 rcases Nat.lt_or_ge (syN j 6) 2 with hB|hB
 ·have hB1:syN j 6=1:=by omega
  have hq:syN j 4/syN j 6=syN j 4:=by rw[hB1,Nat.div_one]
  have hn1:syN j 5/syN j 6=syN j 5:=by rw[hB1,Nat.div_one]
  have:=enc1_calls b (pkgIx j) cb cap data w h1 h (by rw[h4,h7,hq]) (by rw[h4,hl]) hs hcw
  have e:wordsN j data=data++eccOut (facN (tOf (pkgIx j))) data:=by
   rw[words_eq hj hs]
   congr 1
   have hle:(eccOut (facN (tOf (pkgIx j))) data).length=syN j 5:=by rw[eccOut_len,hn,hn1]
   rw[←map_getDK (eccOut (facN (tOf (pkgIx j))) data),hle]
   apply List.map_congr_left
   intro e _
   rw[valE,hB1,Nat.mod_one,Nat.div_one,Nat.div_one,←hl,block_one]
  rw[e];exact this
 ·rw[words_eq hj hs]
  exact encM_calls h1 h h4 h5 h6 h7 h8 hB hl hs hcw
theorem wordsN_len {j:Nat} {data:List Nat} (hl:data.length=syN j 4):(wordsN j data).length=syN j 4+syN j 5:=by
 unfold wordsN;rw[wordsG_len,hl]
theorem small_words {j:Nat} (hj:j<29) {data:List Nat} (hs:Small data):Small (wordsN j data):=by
 rw[words_eq hj hs]
 exact small_app hs (small_of_mem fun p hp=>by
  obtain⟨e,_,rfl⟩:=List.mem_map.1 hp
  exact eccOut_small _ _ _)
def IntsR (po base:Nat) (xs:List Nat) (wq:World) (b:Bool) (w':World):Prop:=
 b=true∧∃g cap,Ints w' g xs∧base≤g∧w'.heap[po]? =some (.cells #[.slice (some ⟨g,0,none⟩) xs.length cap] 28)∧But po wq w'
def IntsIn (po base:Nat) (xs:List Nat) (wq:World) (e:Ending) (w':World):Prop:=∃b,e= .returned (.bool b)∧IntsR po base xs wq b w'
set_option maxRecDepth 100000 in
set_option maxHeartbeats 2000000 in
theorem checkClo_calls {wq:World} {pr pc pb po cb cap j:Nat} {data:List Nat} (hj:j<29) (hpr:wq.cell? ⟨pr,0,none⟩=some (.int .i64 (syN j 0))) (hpc:wq.cell? ⟨pc,0,none⟩=some (.int .i64 (syN j 1)))
 (hpb:wq.cell? ⟨pb,0,none⟩=some (.slice (some ⟨cb,0,none⟩) data.length cap)) (hpbl:pb<wq.heap.size) (hpo:wq.heap[po]? =some (.cells #[.slice none 0 0] 28)) (hl:data.length=syN j 4) (hs:Small data) (hcw:Bytes wq cb data):
 Calls Tryz.prog 57 #[.pointer (some ⟨pr,0,none⟩),.pointer (some ⟨pc,0,none⟩),.pointer (some ⟨pb,0,none⟩),.pointer (some ⟨po,0,none⟩)] wq (IntsIn po wq.heap.size (wordsN j data) wq):=by
 obtain⟨h1,h2,h3,_⟩:=pkg_ok j hj
 have gs:∀w,Calls Tryz.prog 58 #[.int .i64 (syN j 0),.int .i64 (syN j 1)] w fun e w'=>∃b,e= .returned (.tuple #[.pointer (some ⟨b,0,none⟩),.bool true])∧w'.heap[b]? =some (.cells (siOf (pkgIx j)) 112)∧Below w.heap.size w w':=fun w=>by
  rw[←h2,←h3];exact implSym_calls h1 w
 have GS:=Lib.hid gs
 have HPO:=Lib.hid hpo
 have HCW:=Lib.hid hcw
 have hwl:=wordsN_len hl
 have HWL:=Lib.hid hwl
 obtain⟨b1,b2,b3,b4,_,_⟩:=sy_bd j hj
 have hpl:=lt_of_blk hpo
 have HL:=Lib.hid hl
 have HS:=Lib.hid hs
 have h9:1≤syN j 4+syN j 5∧syN j 4+syN j 5≤4000:=by omega
 clear h2 h3 gs hpo hcw hwl hl hs
 go_enter Tryz.func57,Tryz.ntmps57
 go_wp2_with (first|(go_at_call 58;refine(GS.out _).mono ?_;rintro e w1 ⟨b,rfl,hsi,hb⟩;have kb:=(hb.cell (p:=⟨pb,0,none⟩) hpbl).trans hpb;have HSI:=Lib.hid hsi;have HB:=Lib.hid hb;have HC1:=Lib.hid (HCW.out.below hb HCW.out.1);clear hsi hb)|(go_at_call 59;refine((encAll_calls hj HSI.out HL.out HS.out HC1.out).mono fun e w' ⟨v,k1,k2,k3⟩=>RowPost.of (by rw[HWL.out];exact h9.1) k1 k2 k3).mono ?_;rintro e w2 ⟨g2,c2,rfl,o2,hb2⟩;have HO2:=Lib.hid o2;have HB2:=Lib.hid (HB.out.trans (hb2.mono HB.out.size));clear o2 hb2)|(go_at_call 47;refine(ints_calls HO2.out (small_words hj HS.out) (by rw[HWL.out];exact h9.1) (by rw[HWL.out];exact h9.2)).mono ?_;rintro e w3 ⟨g3,c3,rfl,hg3,o3,hb3⟩;have HO3:=Lib.hid o3;have HB3:=Lib.hid (HB2.out.trans (hb3.mono HB2.out.size));have kp:=((HB2.out.trans (hb3.mono HB2.out.size)).block po hpl).trans HPO.out;have k0:=cell_blk kp 0;have f0:=frozen_blk kp 0;have HKP:=Lib.hid kp;clear o3 hb3 kp))
 go_ret
 have z2:=HB2.out.size
 refine⟨true,rfl,rfl,g3,c3,HO3.out.set_ne (by simp;omega) _,by omega,?_,?_⟩
 ·rw[heap_setCell_at HKP.out];rfl
 ·exact⟨(HB3.out.mono (B':=po) (Nat.le_of_lt hpl)).setCell (Nat.le_refl _) _,fun x hx hne=>(Below.heap_setCell _ _ _ _ hne).trans (HB3.out.block x hx)⟩
end
end Go.Proofs.YtcnallabiffemaaGreatDoor
