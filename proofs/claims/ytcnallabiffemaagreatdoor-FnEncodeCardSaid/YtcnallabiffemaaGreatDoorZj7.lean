/- All codewords of the reference: the walk. -/
import Derived.Test.YtcnallabiffemaaGreatDoorZj3
import Derived.StillTailTactics
import Derived.Deep.RegionHeld3
import Derived.Deep.AppendLies
set_option linter.unusedVariables false
set_option linter.unusedSimpArgs false
namespace Go.Proofs.YtcnallabiffemaaGreatDoor
section
open Go.RowKit
theorem build28 (w:World):(Instr.buildSlice 28 0 #[]).run Tryz.prog w= .ok (.slice (some ⟨w.heap.size,0,none⟩) 0 0) (w.alloc (.cells #[] 3)):=by kernel_rfl
theorem Own.len {w:World} {base g cap n:Nat} {k:IntKind} {T:TypeId} {xs:List Nat} (h:Own w base k T (.slice (some ⟨g,0,none⟩) n cap) xs):n=xs.length:=by
 have h1:=h.1
 rw[List.length_map,length_nl,Nat.mul_one]at h1
 rcases h.2 with h2|⟨g1,c1,cur,hv,a2,a3,a4,a5,a6⟩
 ·cases h2.1
 ·injection hv with _ hv2 _
theorem Own.cellN {w:World} {base g cap n:Nat} {k:IntKind} {T:TypeId} {xs:List Nat} (h:Own w base k T (.slice (some ⟨g,0,none⟩) n cap) xs) {i:Nat} (hi:i<n):w.cell? ⟨g,i,none⟩=some (.int k ((xs.getD i 0:Nat):Int)):=by
 obtain rfl:=h.len
 exact h.cell hi
theorem Own.intsN {w:World} {base g cap n:Nat} {T:TypeId} {xs:List Nat} (h:Own w base .i64 T (.slice (some ⟨g,0,none⟩) n cap) xs):Ints w g xs:=by
 obtain rfl:=h.len
 exact h.ints
theorem shift_row {w:World} {g n:Nat} {xs:List Nat} (h:Row w g .i64 3 (nl (xs.drop 1++xs.drop (n-1)))) (hl:xs.length=n) (hn:1≤n):Row (w.setCell ⟨g,n-1,none⟩ (.int .i64 0)) g .i64 3 (nl (xs.drop 1++[0])):=by
 have h1:=h.set (n-1) ((0:Nat):Int)
 rw[set_nl,List.set_append_right _ _ (by simp[hl])]at h1
 have e:xs.drop (n-1)=[xs.getD (n-1) 0]:=by
  rw[List.drop_eq_getElem_cons (by omega),List.drop_eq_nil_of_le (by omega),List.getD_eq_getElem?_getD,List.getElem?_eq_getElem (by omega)];rfl
 have e2:n-1-(xs.drop 1).length=0:=by simp[hl]
 rw[e,e2]at h1
 exact h1
theorem len_snoc {G:List Nat} {k:Nat} (h:G.length=k+1) (x:Nat):(G++[x]).length=k+1+1:=by simp[h]
set_option maxRecDepth 100000 in
set_option maxHeartbeats 4000000 in
theorem check_calls {data:List Nat} {db dcap n:Nat} {w:World} (hx:Ints w db data) (hs:Small data) (h2:data.length≤2000) (hn1:2≤n) (hn2:n≤100):
 Calls Tryz.prog 41 #[.slice (some ⟨db,0,none⟩) data.length dcap,.int .i64 n] w (CheckPost n data w):=by
 have HX:=Lib.hid hx
 clear hx
 have hmk:=make28 (n:Int) (by omega) (by omega)
 rw[Int.toNat_natCast]at hmk
 have HMK:=Lib.hid hmk
 clear hmk
 have hbu:=build28
 go_enter Tryz.func41,Tryz.ntmps41
 go_wp2
 go_loopw [5,6,7] (fun g i r wr=>∃k gb gcap:Nat,k≤n∧i= .int .i64 k∧r= .int .i64 (rootN k)∧g= .slice (some ⟨gb,0,none⟩) ((k:Nat)+1) gcap∧w.heap.size≤gb∧Hid (Ints wr gb (genN k))∧Hid (Below w.heap.size w wr)) (fun _ i _ _=>n-(intOf i).toNat)
 case atStart=>exact⟨0,w.heap.size,1,by omega,rfl,rfl,rfl,Nat.le_refl _,Ints.one rfl,(Below.refl _ _).alloc (Nat.le_refl _) _⟩
 case round=>
  obtain⟨k,gb,gcap,hk,rfl,rfl,rfl,hgb,hg,hb⟩:=hrel
  have hbz:=hb.out.size
  by_cases hlt:k<n
  ·have hgl:=genN_len k
   have HGL:=Lib.hid hgl
   obtain⟨G,hG⟩:∃G,G=genN k:=⟨_,rfl⟩
   rw[←hG]at hg hgl
   have HG:=Lib.hid hG
   clear hG
   have HGL2:=Lib.hid hgl
   clear hgl
   go_wp2_with (first|(refine app28 rfl (.tmp 23) (.tmp 24) rfl wr.heap.size (.slice (some ⟨wr.heap.size,0,none⟩) 0 0) [] rfl (Own.of_room (c:=0) (new_last rfl _) rfl (Nat.le_refl _) (by simp[maxLen])) gb (k+1) gcap G rfl HGL2.out.symm (hg.out.alloc _) (by rw[HGL2.out];simp<;>omega) (by simp) ?_;intro v1 w1 ho1 hg1 hne1;rw[List.nil_append]at ho1;obtain⟨g1,c1,hv1⟩:=ho1.slice (by rw[HGL2.out];omega);rw[HGL2.out]at hv1;subst hv1;have HO1:=Lib.hid ho1;have HI1:=Lib.hid ((hg.out.alloc (.cells #[] 3)).grown hg1 (fun e=>by have h9:=hg.out.1;simp only[Value.ownBlock,Option.some.injEq]at e;omega));have HB1:=Lib.hid (step1 hg1);clear ho1 hg1 hne1)|(at_builtin;go_loud (refine app28 rfl (.tmp 25) (.tmp 26) rfl wr.heap.size (.slice (some ⟨g1,0,none⟩) (k+1) c1) G rfl (HO1.out.alloc _) w1.heap.size 1 1 [0] rfl rfl (Ints.one rfl) (by have h9:=HGL2.out;simp<;>omega) (by have:=HB1.out.size;simp<;>omega) ?_;intro v2 w2 ho2 hg2 hne2;obtain⟨nb,ncap,rfl⟩:=ho2.slice (by simp);have HI2:=Lib.hid ((HI1.out.alloc (.cells #[.int .i64 0] 3)).grown hg2 (by intro e;have h8:=(HO1.out.lt gb e.symm).1;have h9:=hg.out.1;omega));have HB2:=Lib.hid ((HB1.out.alloc HB1.out.size (.cells #[.int .i64 0] 3)).grown hg2 (by have:=HB1.out.size;simp<;>omega) (fun g e=>(HO1.out.lt g e).1));have hlen2:=len_snoc HGL2.out 0;rw[hlen2]at ho2;have HO2:=Lib.hid ho2;clear ho2 hg2 hne2)))
   have hrl:=rootN_lt k
   obtain⟨R,hR⟩:∃R,R=rootN k:=⟨_,rfl⟩
   rw[←hR]at hrl ⊢
   have SG:=Lib.hid (show Small G by rw[HG.out];exact small_genN k)
   have hnext:genIn G R (k+1)=genN (k+1):=by rw[genN,←HG.out,←hR,HGL2.out]
   have HNX:=Lib.hid hnext
   have hrn:timesN R 2=rootN (k+1):=by rw[rootN,hR]
   have HRN:=Lib.hid hrn
   clear hR hnext hrn
   have t2:∀w,Calls Tryz.prog 70 #[.int .i64 R,.int .i64 2] w fun e w'=>e= .returned (.int .i64 (timesN R 2))∧w'=w:=fun w=>times_calls (b:=2) hrl (by omega) w
   rw[HRN.out]at t2
   obtain⟨wo,rfl⟩:∃wo:World,wo=wr:=⟨_,rfl⟩
   go_loopw [30] (fun j wi=>∃m:Nat,m≤k+1∧j= .int .i64 m∧Hid (Own wi wo.heap.size .i64 3 (.slice (some ⟨nb,0,none⟩) (k+1+1) ncap) (genIn G R m))∧Hid (Below wo.heap.size wo wi)) (fun j _=>k+1-(intOf j).toNat)
   case atStart=>exact⟨0,by omega,rfl,HO2.out,HB2.out⟩
   case round=>
    obtain⟨m,hm,rfl,ho,hbi⟩:=hrel
    by_cases hml:m<k+1
    ·have cx:=ho.out.cellN (i:=m+1) (by omega)
     have fx:=ho.out.frozen (m+1)
     have cg:=(hg.out.below hbi.out hg.out.1).2 m (by rw[HGL2.out];omega)
     have hset:=ho.out.put (m+1) ((genIn G R m).getD (m+1) 0 ^^^ timesN (G.getD m 0) R)
     have h1:=small_genIn (r:=R) SG.out m (m+1)
     have h2:=SG.out m
     have h3:=timesN_lt R h2
     have hx:=xor64 _ _ (show (genIn G R m).getD (m+1) 0<2^63 by omega) (show timesN (G.getD m 0) R<2^63 by omega)
     have HSET:Hid (Own (wr.setCell ⟨nb,m+1,none⟩ (.int .i64 (((genIn G R m).getD (m+1) 0 ^^^ timesN (G.getD m 0) R:Nat):Int))) wo.heap.size .i64 3 (.slice (some ⟨nb,0,none⟩) (k+1+1) ncap) (genIn G R (m+1))):=Lib.hid hset
     have HB3:=Lib.hid (hbi.out.setCell (p:=⟨nb,m+1,none⟩) ((ho.out.lt nb rfl).1) (.int .i64 (((genIn G R m).getD (m+1) 0 ^^^ timesN (G.getD m 0) R:Nat):Int)))
     clear hset
     have ht:=times_calls h2 hrl
     generalize timesN (G.getD m 0) R=t at*
     generalize (genIn G R m).getD (m+1) 0=a at*
     generalize G.getD m 0=gm at*
     have HT:=Lib.hid ht
     clear ht
     have sw:IntKind.i64.wrap ((m:Int)+1)=(m:Int)+1:=IntWalk.i64_in _ (by omega)
     have sb:(0:Int)≤(m:Int)+1:=by omega
     have sn:((m:Int)+1).toNat=m+1:=by omega
     have sl:(m:Int)+1<((k+1+1:Nat):Int):=by omega
     go_wp2
     go_still_tail 13,(by kernel_rfl)
     still_call (HT.out _)
     repeat still_step
     refine wpStill_nil ?_
     go_wp2
     exact⟨⟨m+1,by omega,by go_num,HSET.out.drew,below_dr HB3.out 1⟩,by simp[intOf];omega⟩
    ·obtain rfl:k+1=m:=by omega
     rw[HNX.out]at ho
     go_wp2_with (go_at_call 70;refine(t2 _).mono ?_;rintro e w9 ⟨rfl,rfl⟩)
     exact⟨⟨k+1,nb,ncap,by omega,by go_num,rfl,rfl,by have h9:=(ho.out.lt nb rfl).1;omega,ho.out.intsN,hb.out.trans (hbi.out.mono hbz)⟩,by simp[intOf];omega⟩
  ·obtain rfl:n=k:=by omega
   have hgl:=genN_len n
   have SG:=Lib.hid (small_genN n)
   obtain⟨G,hG⟩:∃G,G=genN n:=⟨_,rfl⟩
   rw[←hG]at hg hgl SG
   have HG:=Lib.hid hG
   have HGL:=Lib.hid hgl
   clear hG hgl
   have hmk:=HMK.out
   obtain⟨wa,rfl⟩:∃wa:World,wa=wr:=⟨_,rfl⟩
   go_wp2
   clear hmk
   have hgl0:=hg.out.1
   go_loopw [52] (fun i wi=>∃k:Nat,k≤data.length∧i= .int .i64 k∧Hid (Row wi wa.heap.size .i64 3 (nl (restTo data n k)))∧Hid (Ints wi gb G)∧Hid (Below w.heap.size w wi)) (fun i _=>data.length-(intOf i).toNat)
   case atStart=>exact⟨0,by omega,rfl,by rw[restTo,List.take_zero,List.foldl_nil,←zs_nl];exact Row.new _ _ _ _,hg.out.alloc _,hb.out.alloc hbz _⟩
   case round=>
    obtain⟨k,hk,rfl,hr,hg3,hb3⟩:=hrel
    obtain⟨wb,rfl⟩:∃wb:World,wb=wr:=⟨_,rfl⟩
    by_cases hkl:k<data.length
    ·obtain⟨hsx,hlx⟩:=restTo_ok (data:=data) k (show 0<n by omega) hs
     have hnext:=restTo_succ (n:=n) hkl
     obtain⟨xs,hxs⟩:∃xs,xs=restTo data n k:=⟨_,rfl⟩
     rw[←hxs]at hr hsx hlx hnext
     have HXS:=Lib.hid hxs
     clear hxs
     have cd:=(HX.out.below hb3.out HX.out.1).2 k hkl
     have c0:=hr.out.cell (i:=0) (by rw[length_nl,hlx];omega)
     rw[getD_nl]at c0
     have hd:=hs k
     have h0:=hsx 0
     rw[restStep,hlx]at hnext
     obtain⟨d,hdd⟩:∃d,d=data.getD k 0:=⟨_,rfl⟩
     rw[←hdd]at cd hd hnext
     obtain⟨x0,hx0⟩:∃x0,x0=xs.getD 0 0:=⟨_,rfl⟩
     rw[←hx0]at c0 h0 hnext
     have hxo:=xor64 d x0 (by omega) (by omega)
     have hld:=xor_lt hd h0
     obtain⟨lead,hlead⟩:∃lead,lead=d ^^^ x0:=⟨_,rfl⟩
     rw[←hlead]at hxo hld hnext
     have HNX:=Lib.hid hnext
     have HLX:=Lib.hid hlx
     have HSX:=Lib.hid hsx
     have hki:(k:Int)<(data.length:Int):=by omega
     have n1:(1:Int)<(n:Int):=by omega
     have n2:¬n=1:=by omega
     have n3:IntKind.i64.wrap ((n:Int)-1)=(n:Int)-1:=IntWalk.i64_in _ (by omega)
     have n4:(0:Int)≤(n:Int)-1:=by omega
     have n5:((n:Int)-1).toNat=n-1:=by omega
     clear hdd hx0 hlead hnext hlx hsx
     go_wp2_with (refine copyTail rfl (.tmp 61) (.tmp 63) rfl wa.heap.size n xs HLX.out (by omega) rfl rfl hr.out ?_;intro w5 hr5 hbk5;have HR5:=Lib.hid (shift_row hr5 HLX.out (by omega));have HB5:=Lib.hid ((hbk5 _ _ hb3.out hbz).setCell (p:=⟨wa.heap.size,n-1,none⟩) hbz (.int .i64 0));have HG5:=Lib.hid ((hg3.out.below (hbk5 _ _ (Below.refl wa.heap.size wb) (Nat.le_refl _)) hgl0).set_ne (a:=⟨wa.heap.size,n-1,none⟩) (by simp;omega) (.int .i64 0));have c5:=hr5.cell (i:=n-1) (by have h9:=HLX.out;simp;omega);have f5:=hr5.free (n-1);clear hr5 hbk5)
     generalize w5.setCell ⟨wa.heap.size,n-1,none⟩ (.int .i64 0)=w6 at*
     have SSH:=Lib.hid (small_drop1 HSX.out)
     have LSH:=Lib.hid (show (xs.drop 1++[0]).length=n by have h9:=HLX.out;simp;omega)
     obtain⟨sh,hsh⟩:∃sh,sh=xs.drop 1++[0]:=⟨_,rfl⟩
     rw[←hsh]at HR5 SSH LSH HNX
     clear hsh c5 f5 cd c0
     rw[←HG.out]at HNX
     go_loopw [70] (fun j wi=>∃m:Nat,m≤n∧j= .int .i64 m∧Hid (Row wi wa.heap.size .i64 3 (nl (inTo lead G sh m)))∧Hid (Ints wi gb G)∧Hid (Below w.heap.size w wi)) (fun j _=>n-(intOf j).toNat)
     case atStart=>exact⟨0,by omega,rfl,HR5.out,HG5.out,HB5.out⟩
     case round=>
      obtain⟨m,hm,rfl,hri,hgi,hbi⟩:=hrel
      by_cases hml:m<n
      ·have hli:(inTo lead G sh m).length=n:=(inTo_len _ _ _ _).trans LSH.out
       have cx:=hri.out.cell (i:=m) (by rw[length_nl,hli];omega)
       rw[getD_nl]at cx
       have fx:=hri.out.free m
       have cg:=hgi.out.2 (m+1) (by rw[HGL.out];omega)
       have h1:=small_inTo (g:=G) hld SSH.out m m
       have h2:=SG.out (m+1)
       have h3:=timesN_lt (G.getD (m+1) 0) hld
       have hx:=xor64 _ _ (show (inTo lead G sh m).getD m 0<2^63 by omega) (show timesN lead (G.getD (m+1) 0)<2^63 by omega)
       have hset:=hri.out.set m (((inTo lead G sh m).getD m 0 ^^^ timesN lead (G.getD (m+1) 0):Nat):Int)
       rw[set_nl]at hset
       have HSET:Hid (Row (wr.setCell ⟨wa.heap.size,m,none⟩ (.int .i64 (((inTo lead G sh m).getD m 0 ^^^ timesN lead (G.getD (m+1) 0):Nat):Int))) wa.heap.size .i64 3 (nl (inTo lead G sh (m+1)))):=Lib.hid hset
       have HB7:=Lib.hid (hbi.out.setCell (p:=⟨wa.heap.size,m,none⟩) hbz (.int .i64 (((inTo lead G sh m).getD m 0 ^^^ timesN lead (G.getD (m+1) 0):Nat):Int)))
       have HG7:=Lib.hid (hgi.out.set_ne (a:=⟨wa.heap.size,m,none⟩) (by simp;omega) (.int .i64 (((inTo lead G sh m).getD m 0 ^^^ timesN lead (G.getD (m+1) 0):Nat):Int)))
       clear hset hli
       have ht:=times_calls hld h2
       generalize timesN lead (G.getD (m+1) 0)=t at*
       generalize (inTo lead G sh m).getD m 0=a at*
       generalize G.getD (m+1) 0=gm at*
       have HT:=Lib.hid ht
       clear ht
       have sw:IntKind.i64.wrap ((m:Int)+1)=(m:Int)+1:=IntWalk.i64_in _ (by omega)
       have sb:(0:Int)≤(m:Int)+1:=by omega
       have sn:((m:Int)+1).toNat=m+1:=by omega
       have sl:(m:Int)+1<((n+1:Nat):Int):=by omega
       have sl2:(m:Int)<(n:Int):=by omega
       go_wp2
       go_still_tail 13,(by kernel_rfl)
       still_call (HT.out _)
       repeat still_step
       refine wpStill_nil ?_
       go_wp2
       exact⟨⟨m+1,by omega,by go_num,HSET.out.drew,HG7.out.drew,below_dr HB7.out 1⟩,by simp[intOf];omega⟩
      ·obtain rfl:n=m:=by omega
       rw[←HNX.out]at hri
       go_wp2
       exact⟨⟨k+1,by omega,by go_num,hri,hgi,hbi⟩,by simp[intOf];omega⟩
    ·obtain rfl:data.length=k:=by omega
     go_wp2
     go_ret
     refine⟨wa.heap.size,rfl,hbz,?_,hb3.out⟩
     have h9:=hr.out
     rw[restTo,List.take_length]at h9
     exact h9
end
section
open Go.RowKit
theorem step28 {ops:Array Oper} {o:Oper} {a:Act} {w:World} {K:Act→World→Prop} {Q:Exit→Act→World→Prop} {E:Prop} (hgd:o.guard=none) (s x:Operand)
 (ho:o.op= .call {callee:= .builtin .append,args:= #[s,x],argTypes:= #[28,28]})
 (base:Nat) (v:Value) (xs:List Nat) (hs:a.eval s=v) (hown:Own w base .i64 3 v xs)
 (b c y:Nat) (hx:a.eval x= .slice (some ⟨b,0,none⟩) 1 c) (hy:w.cell? ⟨b,0,none⟩=some (.int .i64 (y:Int)))
 (hlen:xs.length≤50000) (hbase:base≤w.heap.size) (H:Nat) (hH:w.heap.size=H)
 (h:∀g cap w',Own w' base .i64 3 (.slice (some ⟨g,0,none⟩) (xs.length+1) cap) (xs++[y])→w.grownBy w' v.ownBlock→(v.ownBlock=some g∨g=H)→K (a.put o.dst (.slice (some ⟨g,0,none⟩) (xs.length+1) cap)) w'):
 if Region.wanted o (yielded ops a.tmps)=true then Oper.wp Tryz.prog o a w K Q else E:=by
 obtain⟨i,hi,hz,hsz,hb⟩:=info_parts Tryz.inf3
 refine step_append_lies w hgd s x 28 ho base 3 i _ 1 8 Tryz.underlying28 hi hz hsz hb rfl (by omega) v xs.length _ hs hown ⟨b,0,none⟩ 1 c [.int .i64 (y:Int)] hx (by simp) (by
  intro j u hj
  rcases j with _|j
  ·simp only[List.getElem?_cons_zero,Option.some.injEq]at hj
   rw[show (⟨b,0,none⟩:Addr).add 0=⟨b,0,none⟩from rfl,hy,hj]
  ·simp at hj) (by intro u hu;rw[List.mem_singleton.1 hu];rfl) (by omega) (by simp only[maxLen];omega) (by omega) hbase H hH ?_
 intro g cap w' h1 h2 h3 _
 refine h g cap w' ?_ h2 h3
 unfold Own
 rw[List.length_append]
 simpa[nl]using h1
theorem Tryz.inf28b:(Tryz.prog.info? 28).map (fun i=>(i.zero,i.size,i.bytes))=some (some (.slice none 0 0),1,24):=Tryz.inf28
set_option maxRecDepth 100000 in
theorem make73 (c:Int) (h1:0≤c) (h2:c≤1000) (w:World):
 (Instr.makeSlice 73 (.int .i64 c) (.int .i64 c)).run Tryz.prog w= .ok (.slice (some ⟨w.heap.size,0,none⟩) c.toNat c.toNat) (w.alloc (.cells (Array.replicate c.toNat (.slice none 0 0)) 28)):=by
 obtain⟨i,h,hz,hs,hb⟩:=info_parts Tryz.inf28
 have:(i.bytes:Int)*c≤24*1000:=Int.mul_le_mul (by omega) h2 (by omega) (by omega)
 rw[run_make w 73 28 i _ Tryz.underlying73 h hz .i64 .i64 c c h1 (by omega) (by omega) (by omega),hs,Nat.mul_one,show (Value.slice none 0 0).cells= #[Value.slice none 0 0]from rfl]
 congr 3
 apply Array.toList_inj.1
 rw[toList_madeCells_one];simp
def blockTo (data:List Nat) (B b k:Nat):List Nat:=(List.range k).map fun j=>data.getD (b+j*B) 0
@[simp] theorem blockTo_len (data:List Nat) (B b k:Nat):(blockTo data B b k).length=k:=by simp[blockTo]
theorem blockTo_succ (data:List Nat) (B b k:Nat):blockTo data B b k++[data.getD (b+k*B) 0]=blockTo data B b (k+1):=by simp[blockTo,List.range_succ]
theorem small_block {data:List Nat} (h:Small data) (B b k:Nat):Small (blockTo data B b k):=small_of_mem fun p hp=>by
 obtain⟨j,_,rfl⟩:=List.mem_map.1 hp
 exact h _
def tailN (data:List Nat) (B q n j:Nat):Nat:=(checkN (blockTo data B (j%B) q) n).getD (j/B) 0
def wordsG (data:List Nat) (B q n k:Nat):List Nat:=data++(List.range k).map (tailN data B q n)
theorem wordsG_succ (data:List Nat) (B q n k:Nat):wordsG data B q n k++[tailN data B q n k]=wordsG data B q n (k+1):=by simp[wordsG,List.range_succ]
theorem wordsG_len (data:List Nat) (B q n k:Nat):(wordsG data B q n k).length=data.length+k:=by simp[wordsG]
def wordsN (i:Nat) (data:List Nat):List Nat:=wordsG data (syN i 6) (syN i 4/syN i 6) (syN i 5/syN i 6) (syN i 5)
theorem sy_block:∀i,i<29→syN i 4/syN i 6*syN i 6=syN i 4∧syN i 5/syN i 6*syN i 6=syN i 5∧2≤syN i 5/syN i 6∧syN i 5/syN i 6≤100∧1≤syN i 4/syN i 6:=by decide+kernel
end
section
open Go.RowKit
def tailV (bs:List Nat) (B n:Nat):Array Value:=(bs.map (fun b=>Value.slice (some ⟨b,0,none⟩) n n)++List.replicate (B-bs.length) (Value.slice none 0 0)).toArray
theorem tailV_nil (B n:Nat):tailV [] B n=Array.replicate B (Value.slice none 0 0):=by
 apply Array.toList_inj.1;simp[tailV]
theorem tailV_set {bs:List Nat} {B n b:Nat} (h:bs.length<B):(tailV bs B n).setIfInBounds bs.length (.slice (some ⟨b,0,none⟩) n n)=tailV (bs++[b]) B n:=by
 apply Array.toList_inj.1
 obtain⟨m,hm⟩:∃m,B-bs.length=m+1:=⟨B-bs.length-1,by omega⟩
 have hm2:B-(bs.length+1)=m:=by omega
 simp only[tailV,Array.toList_setIfInBounds,List.length_append,List.length_cons,List.length_nil,Nat.zero_add,hm,hm2]
 rw[List.set_append_right _ _ (by simp)]
 simp[List.replicate_succ]
theorem tailV_new {bs:List Nat} {B n:Nat} (h:bs.length<B):(tailV bs B n)[bs.length]? =some (.slice none 0 0):=by
 simp only[tailV,List.getElem?_toArray]
 rw[List.getElem?_append_right (by simp),List.getElem?_replicate,if_pos (by simp;omega)]
theorem tailV_get {bs:List Nat} {B n j:Nat} (h:j<bs.length):(tailV bs B n)[j]? =some (.slice (some ⟨bs.getD j 0,0,none⟩) n n):=by
 simp only[tailV,List.getElem?_toArray]
 rw[List.getElem?_append_left (by simpa using h),List.getElem?_map,List.getD_eq_getElem?_getD,List.getElem?_eq_getElem h];rfl
structure Tails (w:World) (tb:Nat) (data:List Nat) (B q n k:Nat) (bs:List Nat):Prop where
 len:bs.length=k
 blk:w.heap[tb]? =some (.cells (tailV bs B n) 28)
 row:∀j,j<k→Row w (bs.getD j 0) .i64 3 (nl (checkN (blockTo data B j q) n))∧tb<bs.getD j 0
theorem Tails.below {w w':World} {tb:Nat} {data:List Nat} {B q n k Z:Nat} {bs:List Nat} (h:Tails w tb data B q n k bs) (hb:Below Z w w') (hz:w.heap.size≤Z):Tails w' tb data B q n k bs:=
 ⟨h.len,(hb.block tb (by have:=lt_of_blk h.blk;omega)).trans h.blk,fun j hj=>⟨(h.row j hj).1.below hb (by have:=(h.row j hj).1.lt;omega),(h.row j hj).2⟩⟩
theorem Tails.push {w:World} {tb rb:Nat} {data:List Nat} {B q n k:Nat} {bs:List Nat} (h:Tails w tb data B q n k bs) (hk:k<B) (hr:Row w rb .i64 3 (nl (checkN (blockTo data B k q) n))) (hrb:tb<rb):
 Tails (w.setCell ⟨tb,k,none⟩ (.slice (some ⟨rb,0,none⟩) n n)) tb data B q n (k+1) (bs++[rb]):=by
 have hl:=h.len
 refine⟨by simp[hl],?_,fun j hj=>?_⟩
 ·rw[heap_setCell_at h.blk]
  have:=tailV_set (b:=rb) (n:=n) (show bs.length<B by omega)
  rw[hl]at this
  rw[this]
 ·rw[getD_snoc (by simp[hl];omega),hl]
  by_cases hlt:j<k
  ·rw[if_pos hlt]
   exact⟨(h.row j hlt).1.set_ne (fun e=>by have h8:=(h.row j hlt).2;change bs.getD j 0=tb at e;omega) _,(h.row j hlt).2⟩
  ·rw[if_neg hlt]
   obtain rfl:j=k:=by omega
   exact⟨hr.set_ne (fun e=>by change rb=tb at e;omega) _,hrb⟩
theorem step2 {w w1:World} {o o2:Obj} {n c:Nat} (hg:((w.alloc o).alloc o2).grownBy w1 (Value.slice (some ⟨w.heap.size+1,0,none⟩) n c).ownBlock):Below (w.heap.size+1) (w.alloc o) w1:=
 ((Below.refl _ _).alloc (by simp) _).grown hg (by simp) (fun k hk=>by simp only[Value.ownBlock,Option.some.injEq]at hk;omega)
theorem checkN_len (data:List Nat) {n:Nat} (hn:0<n):(checkN data n).length=n:=by
 have h:∀(l:List Nat) (r:List Nat),r.length=n→(l.foldl (restStep (genN n)) r).length=n:=by
  intro l
  induction l with
  |nil=>intro r h;exact h
  |cons d l ih=>intro r h;rw[List.foldl_cons];exact ih _ ((restStep_len (by omega)).trans h)
 exact h data _ (by simp)
set_option maxRecDepth 100000 in
set_option maxHeartbeats 4000000 in
theorem words_calls {data:List Nat} {db dcap i:Nat} {w:World} (hx:Ints w db data) (hs:Small data) (hl:data.length=syN i 4) (hi:i<29):
 Calls Tryz.prog 16 #[syV i,.slice (some ⟨db,0,none⟩) data.length dcap] w (IntsPost (wordsN i data) w):=by
 obtain⟨d1,d2,d3,d4,d5,d6⟩:=sy_bd i hi
 obtain⟨e1,e2,e3,e4,e5⟩:=sy_block i hi
 unfold syV wordsN
 rw[←hl]at d1 d2 e1 e5 ⊢
 obtain⟨B,hB⟩:∃B,B=syN i 6:=⟨_,rfl⟩
 obtain⟨C,hC⟩:∃C,C=syN i 5:=⟨_,rfl⟩
 rw[←hB]at d5 d6 e1 e2 e3 e4 e5 ⊢
 rw[←hC]at d3 d4 e2 e3 e4 ⊢
 obtain⟨q,hq⟩:∃q,q=data.length/B:=⟨_,rfl⟩
 obtain⟨n,hn⟩:∃n,n=C/B:=⟨_,rfl⟩
 rw[←hq]at e1 e5 ⊢
 rw[←hn]at e2 e3 e4 ⊢
 have hqn:(C:Int).tdiv (B:Int)=(n:Int):=by rw[hn,Int.tdiv_eq_ediv_of_nonneg (by omega)];simp
 have HQN:=Lib.hid hqn
 have HX:=Lib.hid hx
 have HS:=Lib.hid hs
 have E1:=Lib.hid e1
 have E2:=Lib.hid e2
 clear hl hB hC hq hn hqn hx hs e1 e2
 obtain⟨N,hN⟩:∃N,N=data.length:=⟨_,rfl⟩
 rw[←hN]at d1 d2 E1 ⊢
 have HN:=Lib.hid hN
 clear hN
 have hmk:=make73 (B:Int) (by omega) (by omega)
 rw[Int.toNat_natCast]at hmk
 have hbu:=build28
 go_enter Tryz.func16,Tryz.ntmps16
 go_wp2_with (refine app28 rfl (.tmp 11) (.tmp 12) rfl (w.heap.size+1) (.slice (some ⟨w.heap.size+1,0,none⟩) 0 0) [] rfl (Own.of_room (c:=0) (new_last (by simp) _) rfl (Nat.le_refl _) (by simp[maxLen])) db N dcap data rfl HN.out ((HX.out.alloc _).alloc _) (by have h9:=HN.out;simp;omega) (by simp) ?_;intro v1 w1 ho1 hg1 hne1;rw[List.nil_append]at ho1;obtain⟨g1,c1,hv1⟩:=ho1.slice (by have h9:=HN.out;omega);rw[←HN.out]at hv1;subst hv1;have HO1:=Lib.hid ho1;have HB1:=Lib.hid (step2 hg1);have HBX:=Lib.hid (((step2 hg1).block w.heap.size (by omega)).trans (new_last rfl _));obtain⟨_,_,_,_,_,l5,l6⟩:=cells7 HBX.out;clear ho1 hg1 hne1)
 have HBW:=Lib.hid (((Below.refl w.heap.size w).alloc (Nat.le_refl _) (.cells #[.int .i64 (syN i 0),.int .i64 (syN i 1),.int .i64 (syN i 2),.int .i64 (syN i 3),.int .i64 N,.int .i64 C,.int .i64 B] 30)).trans (HB1.out.mono (by omega)))
 have z1:=HB1.out.size
 simp only[alloc_heap,Array.size_push]at z1
 clear l5 l6
 have HXw:=Lib.hid (HX.out.below HBW.out HX.out.1)
 go_loopw [19] (fun i wr=>∃k:Nat,k≤B∧i= .int .i64 k∧∃bs,Hid (Tails wr w1.heap.size data B q n k bs)∧Hid (Below w1.heap.size w1 wr)) (fun i _=>B-(intOf i).toNat)
 case atStart=>exact⟨0,by omega,rfl,[],⟨rfl,by rw[tailV_nil];exact new_last rfl _,fun j hj=>by omega⟩,(Below.refl _ _).alloc (Nat.le_refl _) _⟩
 case round=>
  obtain⟨k,hk,rfl,bs,ht,hb⟩:=hrel
  have hbx:=(hb.out.block w.heap.size (by omega)).trans HBX.out
  obtain⟨_,_,_,_,_,l5,l6⟩:=cells7 hbx
  have HBXr:=Lib.hid hbx
  clear hbx
  by_cases hlt:k<B
  ·obtain⟨wo,rfl⟩:∃wo:World,wo=wr:=⟨_,rfl⟩
   have zo:=hb.out.size
   have zt:=lt_of_blk ht.out.blk
   go_wp2
   clear l5 l6
   go_loopw [8,9] (fun own j wi=>∃m:Nat,m≤q∧j= .int .i64 ((k+m*B:Nat):Int)∧Hid (Own wi wo.heap.size .i64 3 own (blockTo data B k m))∧Hid (Below wo.heap.size wo wi)) (fun _ j _=>N+B-(intOf j).toNat)
   case atStart=>exact⟨0,by omega,by simp,Own.nil _ _ _ _,Below.refl _ _⟩
   case round=>
    obtain⟨m,hm,rfl,ho,hbi⟩:=hrel
    have hbx:=(hbi.out.block w.heap.size (by omega)).trans HBXr.out
    obtain⟨_,_,_,_,_,l5,l6⟩:=cells7 hbx
    clear hbx
    by_cases hml:m<q
    ·have hmul:(m+1)*B≤q*B:=Nat.mul_le_mul_right _ hml
     have e1:=E1.out
     rw[Nat.add_mul,Nat.one_mul]at hmul
     have hidx:k+m*B<N:=by omega
     obtain⟨x,hx⟩:∃x,x=k+m*B:=⟨_,rfl⟩
     have cx:=((HXw.out.below (hb.out.trans (hbi.out.mono zo)) HXw.out.1).2 x (by rw[←HN.out];omega))
     have hsn:=blockTo_succ data B k m
     rw[←hx]at hidx hsn ⊢
     have hx2:x+B=k+(m+1)*B:=by rw[hx,Nat.add_mul];omega
     have HX2:=Lib.hid hx2
     have hzz:=HS.out x
     obtain⟨z,hz⟩:∃z,z=data.getD x 0:=⟨_,rfl⟩
     rw[←hz]at cx hsn hzz
     have HSN:=Lib.hid hsn
     have hxi:(x:Int)<(N:Int):=by omega
     have hll:(blockTo data B k m).length=m:=blockTo_len _ _ _ _
     have hmq:m≤N:=by have:=Nat.le_mul_of_pos_right m (show 0<B by omega);omega
     have HLL:=Lib.hid hll
     clear hx hx2 hsn hz hll e1 hmul
     go_wp2_with (refine app28 rfl (.tmp 31) (.tmp 36) rfl wo.heap.size _ (blockTo data B k m) rfl (ho.out.alloc _) _ 1 1 [z] rfl rfl (Ints.one rfl) (by have h9:=HLL.out;simp;omega) (by have h9:=hbi.out.size;simp;omega) ?_;intro v' w' ho2 hg hne;rw[HSN.out]at ho2;have HO:=Lib.hid ho2;have hbb:=(hbi.out.alloc hbi.out.size (.cells #[.int .i64 z] 3)).grown hg (by have h9:=hbi.out.size;simp;omega) (fun g2 e=>(ho.out.lt g2 e).1);have kk:=(hbb.block w.heap.size (by omega)).trans HBXr.out;obtain⟨_,_,_,_,_,p5,p6⟩:=cells7 kk;have HB:=Lib.hid hbb;clear ho2 hg hne hbb kk)
     exact⟨⟨m+1,by omega,by rw[←HX2.out];simp,HO,HB⟩,by simp[intOf];omega⟩
    ·obtain rfl:q=m:=by omega
     have e1:=E1.out
     obtain⟨x,hx⟩:∃x,x=k+q*B:=⟨_,rfl⟩
     rw[←hx]
     have hge:¬(x:Int)<(N:Int):=by omega
     obtain⟨og,oc,hv⟩:=ho.out.slice (by rw[blockTo_len];omega)
     rw[blockTo_len]at hv
     subst hv
     have hqn:=HQN.out
     have hqz:((B:Int)==0)=false:=by rw[beq_eq_false_iff_ne];omega
     have hck:∀wx,Ints wx og (blockTo data B k q)→Calls Tryz.prog 41 #[.slice (some ⟨og,0,none⟩) q oc,.int .i64 n] wx (CheckPost n (blockTo data B k q) wx):=fun wx h=>by
      have h8:=check_calls (dcap:=oc) h (small_block HS.out B k q) (by rw[blockTo_len];have:=Nat.le_mul_of_pos_right q (show 0<B by omega);omega) e3 e4
      rw[blockTo_len]at h8
      exact h8
     have HCK:=Lib.hid hck
     have KT:=Lib.hid (ht.out.below hbi.out (Nat.le_refl _))
     have KB:=Lib.hid (hb.out.trans (hbi.out.mono zo))
     clear hx e1 hck
     go_wp2_with (go_at_call 41;refine(HCK.out _ ho.out.intsN).mono ?_;rintro e w5 ⟨rb,rfl,hrb,hrow,hb5⟩;have T5:=Lib.hid (KT.out.below hb5 (Nat.le_refl _));have R5:=Lib.hid hrow;have B5:=Lib.hid (KB.out.trans (hb5.mono (by have h9:=KB.out.size;omega)));have c5:=cell_blk T5.out.blk k;have f5:=frozen_blk T5.out.blk k;rw[←T5.out.len,tailV_new (by rw[T5.out.len];exact hlt),T5.out.len]at c5;clear hrow hb5)
     exact⟨⟨k+1,by omega,by go_num,_,T5.out.push hlt R5.out (by have h9:=hbi.out.size;omega),B5.out.setCell (p:=⟨w1.heap.size,k,none⟩) (Nat.le_refl _) _⟩,by simp[intOf];omega⟩
  ·obtain rfl:B=k:=by omega
   obtain⟨wa,rfl⟩:∃wa:World,wa=wr:=⟨_,rfl⟩
   have za:=hb.out.size
   have hg1:=HO1.out.lt g1 rfl
   have hoa:=HO1.out.below hb.out (fun g e=>(HO1.out.lt g e).2)
   have HOA:=Lib.hid hoa
   have hdis:∀j,j<B→(Value.slice (some ⟨g1,0,none⟩) N c1).ownBlock≠some (bs.getD j 0):=by
    intro j hj e
    have h8:=(ht.out.row j hj).2
    simp only[Value.ownBlock,Option.some.injEq]at e
    omega
   have HDIS:=Lib.hid hdis
   have HBA:=Lib.hid (HBW.out.trans (hb.out.mono (by omega)))
   clear hoa hdis
   go_wp2
   clear l5 l6
   go_loopw [51,5] (fun c v wi=>∃k:Nat,k≤C∧c= .int .i64 k∧Hid (Own wi (w.heap.size+1) .i64 3 v (wordsG data B q n k))∧Hid (∀j,j<B→v.ownBlock≠some (bs.getD j 0))∧Hid (Tails wi w1.heap.size data B q n B bs)∧Hid (wi.heap[w.heap.size]? =some (.cells #[.int .i64 (syN i 0),.int .i64 (syN i 1),.int .i64 (syN i 2),.int .i64 (syN i 3),.int .i64 N,.int .i64 C,.int .i64 B] 30))∧Hid (Below w.heap.size w wi)) (fun c _ _=>C-(intOf c).toNat)
   case atStart=>exact⟨0,by omega,rfl,by rw[wordsG,List.range_zero,List.map_nil,List.append_nil];exact HOA.out,HDIS.out,ht.out,HBXr.out,HBA.out⟩
   case round=>
    obtain⟨k,hk,rfl,ho,hdi,ht3,hbx3,hb3⟩:=hrel
    obtain⟨_,_,_,_,_,l5,l6⟩:=cells7 hbx3.out
    by_cases hkl:k<C
    ·obtain⟨r,hr⟩:∃r,r=k%B:=⟨_,rfl⟩
     obtain⟨t,htt⟩:∃t,t=k/B:=⟨_,rfl⟩
     have hrB:r<B:=by rw[hr];exact Nat.mod_lt _ (by omega)
     have htn:t<n:=by rw[htt];exact(Nat.div_lt_iff_lt_mul (by omega)).2 (by rw[E2.out];exact hkl)
     have q1:(k:Int).tmod (B:Int)=(r:Int):=by rw[hr,Int.tmod_eq_emod_of_nonneg (by omega)];simp
     have q2:(k:Int).tdiv (B:Int)=(t:Int):=by rw[htt,Int.tdiv_eq_ediv_of_nonneg (by omega)];simp
     have hqz:((B:Int)==0)=false:=by rw[beq_eq_false_iff_ne];omega
     have hqz2:¬(B:Int)=0:=by omega
     have hqz3:¬B=0:=by omega
     have hri:(r:Int)<(B:Int):=by omega
     have hti:(t:Int)<(n:Int):=by omega
     have hki:(k:Int)<(C:Int):=by omega
     have ht9:t≤1000:=by omega
     have hr9:r≤1000:=by omega
     have ht0:(0:Int)≤(t:Int):=by omega
     have hr0:(0:Int)≤(r:Int):=by omega
     have hwt:IntKind.i64.wrap (t:Int)=(t:Int):=IntWalk.i64_in _ (by omega)
     have ct:=cell_blk ht3.out.blk r
     rw[tailV_get (by rw[ht3.out.len];exact hrB)]at ct
     have hcl:=checkN_len (blockTo data B r q) (show 0<n by omega)
     have cr:=(ht3.out.row r hrB).1.cell (i:=t) (by rw[length_nl,hcl];exact htn)
     have hval:(nl (checkN (blockTo data B r q) n)).getD t 0=((tailN data B q n k:Nat):Int):=by rw[getD_nl,tailN,hr,htt]
     rw[hval]at cr
     have hsn:=wordsG_succ data B q n k
     have HSN:=Lib.hid hsn
     obtain⟨z,hz⟩:∃z,z=tailN data B q n k:=⟨_,rfl⟩
     rw[←hz]at cr HSN
     obtain⟨bj,hbj⟩:∃bj,bj=bs.getD r 0:=⟨_,rfl⟩
     rw[←hbj]at ct cr
     have HLEN:=Lib.hid (show (wordsG data B q n k).length≤50000 by rw[wordsG_len,←HN.out];omega)
     have lw:=lt_of_blk hbx3.out
     have lt1:=lt_of_blk ht3.out.blk
     have lt2:=(ht3.out.row r hrB).1.lt
     rw[←hbj]at lt2
     have n1:some w.heap.size≠u5.ownBlock:=fun e=>by
      obtain⟨cs,h8⟩:=ho.out.tag _ e.symm
      rw[hbx3.out]at h8;injection h8 with h8;injection h8 with _ h8;exact absurd h8 (by decide)
     have n2:some w1.heap.size≠u5.ownBlock:=fun e=>by
      obtain⟨cs,h8⟩:=ho.out.tag _ e.symm
      rw[ht3.out.blk]at h8;injection h8 with h8;injection h8 with _ h8;exact absurd h8 (by decide)
     have n3:some bj≠u5.ownBlock:=fun e=>hdi.out r hrB (by rw[←hbj];exact e.symm)
     clear hr htt hcl hval hsn hz hbj
     go_wp2
     go_region_held3 (fun w'=>w'.cell? ⟨w.heap.size,6,none⟩=some (.int .i64 B)∧w'.cell? ⟨w1.heap.size,r,none⟩=some (.slice (some ⟨bj,0,none⟩) n n)∧w'.cell? ⟨bj,t,none⟩=some (.int .i64 z))
      (first
        |go_keep
        |(go_split_ands
          refine⟨?_,?_,?_⟩
          ·(rw[hgrow.cell_far _ (by simp;omega) n1];assumption)
          ·(rw[hgrow.cell_far _ (by simp;omega) n2];assumption)
          ·(rw[hgrow.cell_far _ (by simp;omega) n3];assumption)))
      ((refine step28 (by rfl) (.tmp 54) (.tmp 68) (by rfl) (w.heap.size+1) _ (wordsG data B q n k) (by rfl) ((ho.out.alloc _).drew) wr.heap.size 1 z (by rfl) ((Ints.one (w:=wr) (n:=z) rfl).2 0 (Nat.succ_pos _)) HLEN.out (by simp;omega) _ rfl ?_;intro gg cap w4 hown1 hgrow hfr))
     have hown2:Own w4 (w.heap.size+1) .i64 3 (.slice (some ⟨gg,0,none⟩) ((wordsG data B q n k).length+1) cap) (wordsG data B q n (k+1)):=by rw[←HSN.out];exact hown1
     have hgr:((wr.alloc (.cells #[.int .i64 z] 3)).drew).grownBy w4 u5.ownBlock:=hgrow
     have hbx4:=(hgr.block w.heap.size (by simp;omega) n1).trans ((Below.heap_alloc wr (.cells #[.int .i64 z] 3) _ lw).trans hbx3.out)
     have hbl4:Below w.heap.size w w4:=(below_dr (hb3.out.alloc hb3.out.size (.cells #[.int .i64 z] 3)) 1).grown hgr (by simp;omega) (fun g e=>by have h8:=(ho.out.lt g e).1;omega)
     have hta4:Tails w4 w1.heap.size data B q n B bs:=⟨ht3.out.len,(hgr.block w1.heap.size (by simp;omega) n2).trans ((Below.heap_alloc wr (.cells #[.int .i64 z] 3) _ lt1).trans ht3.out.blk),fun j hj=>⟨(hgr.block _ (by have h8:=(ht3.out.row j hj).1.lt;change _<(wr.alloc (.cells #[.int .i64 z] 3)).heap.size;rw[alloc_heap,Array.size_push];omega) (fun e=>hdi.out j hj e.symm)).trans ((Below.heap_alloc wr (.cells #[.int .i64 z] 3) _ (ht3.out.row j hj).1.lt).trans (ht3.out.row j hj).1),(ht3.out.row j hj).2⟩⟩
     have hdi4:∀j,j<B→(Value.slice (some ⟨gg,0,none⟩) ((wordsG data B q n k).length+1) cap).ownBlock≠some (bs.getD j 0):=by
      intro j hj e
      simp only[Value.ownBlock,Option.some.injEq]at e
      rcases hfr with h8|h8
      ·exact hdi.out j hj (by rw[h8,e])
      ·have h9:=(ht3.out.row j hj).1.lt
       change gg=(wr.alloc (.cells #[.int .i64 z] 3)).heap.size at h8
       rw[alloc_heap,Array.size_push]at h8
       omega
     have HO5:=Lib.hid hown2
     have HD5:=Lib.hid hdi4
     have HT5:=Lib.hid hta4
     have HX5:=Lib.hid hbx4
     have HB5:=Lib.hid hbl4
     clear hown2 hdi4 hta4 hbx4 hbl4 hgr hgrow hfr hown1
     go_wp2
     exact⟨⟨k+1,by omega,by go_num,HO5,HD5,HT5,HX5,HB5⟩,by simp[intOf];omega⟩
    ·obtain rfl:C=k:=by omega
     go_wp2
     go_ret
     obtain⟨g3,c3,hv3⟩:=ho.out.slice (by rw[wordsG_len,←HN.out];omega)
     subst hv3
     exact⟨g3,c3,rfl,by have h9:=(ho.out.lt g3 rfl).1;omega,ho.out.ints,hb3.out⟩
end
end Go.Proofs.YtcnallabiffemaaGreatDoor
