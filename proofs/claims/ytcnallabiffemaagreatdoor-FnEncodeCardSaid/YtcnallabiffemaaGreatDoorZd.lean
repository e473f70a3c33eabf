/- ErrorCorrection_EncodeECC200 for symbols of one block. -/
import Derived.Test.YtcnallabiffemaaGreatDoorZc
set_option linter.unusedVariables false
set_option linter.unusedSimpArgs false
namespace Go.Proofs.YtcnallabiffemaaGreatDoor
section
open Go.RowKit
def Own (w:World) (base:Nat) (k:IntKind) (T:TypeId) (v:Value) (xs:List Nat):Prop:=w.ownsRow base T 1 v xs.length ((nl xs).map (Value.int k))
theorem Own.nil (w:World) (base:Nat) (k:IntKind) (T:TypeId):Own w base k T (.slice none 0 0) []:=World.ownsRow_nil w base T 1
section
variable {w:World} {base:Nat} {k:IntKind} {T:TypeId} {v:Value} {xs:List Nat}
theorem Own.look (h:Own w base k T v xs):(v= .slice none 0 0∧xs=[])∨∃g cap rest,v= .slice (some ⟨g,0,none⟩) xs.length cap∧base≤g∧xs.length≤cap∧cap=xs.length+List.length rest∧cap≤maxLen∧
 w.heap[g]? =some (.cells ((nl xs).map (Value.int k)++rest).toArray T):=by
 rcases h.2 with⟨h1,h2⟩|⟨g,cap,cur,hv,hg,hh,hn,hm,hs,ht⟩
 ·exact .inl ⟨h1,List.eq_nil_of_length_eq_zero h2⟩
 ·refine .inr ⟨g,cap,cur.toList.drop xs.length,hv,hg,hn,?_,hm,?_⟩
  ·simp;omega
  ·rw[hh,←ht,Nat.mul_one,List.take_append_drop]
theorem Own.kept {w':World} {row:Option Nat} (h:Own w base k T v xs) (hg:w.grownBy w' row) (hne:v.ownBlock=none∨v.ownBlock≠row):Own w' base k T v xs:=World.ownsRow.kept h hg hne
theorem Own.alloc (h:Own w base k T v xs) (o:Obj):Own (w.alloc o) base k T v xs:=World.ownsRow.alloc h o
theorem Own.lt (h:Own w base k T v xs):∀g,v.ownBlock=some g→base≤g∧g<w.heap.size:=World.ownsRow.lt h
theorem Own.drewN (h:Own w base k T v xs) (n:Nat):Own (w.drewN n) base k T v xs:=h
theorem Own.drew (h:Own w base k T v xs):Own w.drew base k T v xs:=h
theorem Own.of_block {w':World} (h:Own w base k T v xs) (hb:∀g,v.ownBlock=some g→w'.heap[g]? =w.heap[g]?):Own w' base k T v xs:=by
 refine⟨h.1,?_⟩
 rcases h.2 with h2|⟨g,cap,cur,hv,hg,hh,r⟩
 ·exact .inl h2
 ·exact .inr ⟨g,cap,cur,hv,hg,(hb g (by rw[hv];rfl)).trans hh,r⟩
theorem Own.set_ne (h:Own w base k T v xs) {a:Addr} (ha:v.ownBlock≠some a.block) (u:Value):Own (w.setCell a u) base k T v xs:=
 h.of_block fun g hg=>Below.heap_setCell _ _ _ _ (fun e=>ha (by rw[hg,e]))
theorem Own.cell {g cap:Nat} (h:Own w base k T (.slice (some ⟨g,0,none⟩) xs.length cap) xs) {i:Nat} (hi:i<xs.length):w.cell? ⟨g,i,none⟩=some (.int k ((xs.getD i 0:Nat):Int)):=by
 rcases h.look with⟨h1,_⟩|⟨g',cap',rest,hv,_,_,_,_,hh⟩
 ·simp at h1
 ·simp only[Value.slice.injEq,Option.some.injEq,Addr.mk.injEq,and_true,true_and]at hv
  obtain⟨rfl,rfl⟩:=hv
  rw[cell_blk hh,←getD_nl,List.getElem?_toArray,List.getElem?_append_left (by simpa using hi)]
  simp[hi,nl]
theorem Own.bytes {g cap:Nat} {T:TypeId} {w:World} {base:Nat} (h:Own w base .u8 T (.slice (some ⟨g,0,none⟩) xs.length cap) xs):Bytes w g xs:=
 ⟨(h.lt g rfl).2,fun _ hi=>h.cell hi⟩
theorem Own.of_row {b:Nat} (h:Row w b k T (nl xs)) (hb:base≤b) (hm:xs.length≤maxLen):Own w base k T (.slice (some ⟨b,0,none⟩) xs.length xs.length) xs:=
 ⟨by simp,.inr ⟨b,xs.length,_,rfl,hb,h,Nat.le_refl _,hm,by simp,by rw[Nat.mul_one];exact List.take_of_length_le (by simp[irow,nl])⟩⟩
theorem Own.of_room {b c:Nat} {cs:Array Value} (h:w.heap[b]? =some (.cells cs T)) (hc:cs.size=c) (hb:base≤b) (hm:c≤maxLen):Own w base k T (.slice (some ⟨b,0,none⟩) 0 c) []:=
 ⟨by simp[nl],.inr ⟨b,c,_,rfl,hb,h,Nat.zero_le _,hm,by omega,by simp[nl]⟩⟩
end
theorem Own.below {w w':World} {base B:Nat} {k:IntKind} {T:TypeId} {v:Value} {xs:List Nat} (h:Own w base k T v xs) (hb:Below B w w') (hB:∀g,v.ownBlock=some g→g<B):Own w' base k T v xs:=
 h.of_block fun g hg=>hb.block g (hB g hg)
theorem Own.base {w:World} {base base':Nat} {k:IntKind} {T:TypeId} {v:Value} {xs:List Nat} (h:Own w base k T v xs) (hb:base'≤base):Own w base' k T v xs:=by
 refine⟨h.1,?_⟩
 rcases h.2 with h2|⟨g,cap,cur,hv,hg,r⟩
 ·exact .inl h2
 ·exact .inr ⟨g,cap,cur,hv,Nat.le_trans hb hg,r⟩
theorem eccOut_len (poly cw:List Nat):(eccOut poly cw).length=poly.length:=by simp[eccOut,eccState_small]
theorem eccOut_small (poly cw:List Nat):Small (eccOut poly cw):=by
 refine small_of_mem fun p hp=>?_
 have h:=(eccState_small poly cw).1
 obtain⟨i,hi,rfl⟩:=List.mem_iff_getElem.1 (List.mem_reverse.1 hp)
 have:=h i
 rwa [List.getD_eq_getElem?_getD,List.getElem?_eq_getElem hi,Option.getD_some]at this
theorem below_dr {B:Nat} {a w:World} (h:Below B a w) (n:Nat):Below B a (w.drewN n):=⟨h.os,h.tape,h.output,h.size,h.block⟩
theorem Bytes.drewN {w:World} {b:Nat} {xs:List Nat} (h:Bytes w b xs) (n:Nat):Bytes (w.drewN n) b xs:=h
theorem Bytes.drew {w:World} {b:Nat} {xs:List Nat} (h:Bytes w b xs):Bytes w.drew b xs:=h
theorem Bytes.alloc {w:World} {b:Nat} {xs:List Nat} (h:Bytes w b xs) (o:Obj):Bytes (w.alloc o) b xs:=
 h.below ((Below.refl w.heap.size w).alloc (Nat.le_refl _) o) h.1
theorem Bytes.grown {w w':World} {b:Nat} {xs:List Nat} {row:Option Nat} (h:Bytes w b xs) (hg:w.grownBy w' row) (hne:some b≠row):Bytes w' b xs:=
 ⟨Nat.lt_of_lt_of_le h.1 hg.size,fun i hi=>(World.cell?_of_block (w:=w) (a:=⟨b,i,none⟩) (hg.block b h.1 hne)).trans (h.2 i hi)⟩
theorem Bytes.one {w:World} {c:Int} {n:Nat} (h:c=(n:Int)):Bytes (w.alloc (.cells #[.int .u8 c] 5)) w.heap.size [n]:=by
 refine⟨by simp,fun i hi=>?_⟩
 obtain rfl:i=0:=by simpa using hi
 subst h
 have:(w.alloc (.cells #[.int .u8 (n:Int)] 5)).heap[w.heap.size]? =some (.cells #[.int .u8 (n:Int)] 5):=by rw[alloc_heap];simp
 rw[cell_blk this];rfl
theorem grown_below {w w':World} {row:Option Nat} {B:Nat} (hg:w.grownBy w' row) (hB:B≤w.heap.size) (hr:∀g,row=some g→B≤g):Below B w w':=(Below.refl B w).grown hg hB hr
theorem addr_add (b j:Nat):(⟨b,0,none⟩:Addr).add j=⟨b,j,none⟩:=by
 cases j with
 |zero=>rfl
 |succ j=>simp[Addr.add]
theorem app49 {ops:Array Oper} {rest:List Oper} {o:Oper} {a:Act} {Q:Exit→Act→World→Prop} {w:World} (hgd:o.guard=none) (s x:Operand)
 (ho:o.op= .call {callee:= .builtin .append,args:= #[s,x],argTypes:= #[49,49]})
 (base:Nat) (v:Value) (xs:List Nat) (hs:a.eval s=v) (hown:Own w base .u8 5 v xs)
 (b m c:Nat) (ys:List Nat) (hx:a.eval x= .slice (some ⟨b,0,none⟩) m c) (hm:m=ys.length) (hys:Bytes w b ys)
 (hlen:xs.length+ys.length≤100000) (hbase:base≤w.heap.size)
 (h:∀v' w',Own w' base .u8 5 v' (xs++ys)→w.grownBy w' v.ownBlock→(v'= .slice none 0 0↔v= .slice none 0 0∧m=0)→wpList Tryz.prog ops Q rest (a.put o.dst v') w'):
 wpList Tryz.prog ops Q (o::rest) a w:=by
 obtain⟨i,hi,hz,hsz,hb⟩:=info_parts Tryz.inf5
 subst hm
 refine wpList_append_own w hgd s x 49 ho base 5 i _ 1 1 Tryz.underlying49 hi hz hsz hb rfl (by omega) v xs.length _ hs hown ⟨b,0,none⟩ ys.length c ((nl ys).map (Value.int .u8)) hx (by simp) ?_ ?_ (by simp only[maxLen];omega) (by omega) hbase ?_
 ·intro j u hj
  have hjl:j<ys.length:=by
   have:=(List.getElem?_eq_some_iff.1 hj).1;simpa using this
  have e:(⟨b,0,none⟩:Addr).add j=⟨b,j,none⟩:=addr_add b j
  rw[e,hys.2 j hjl,←hj,←getD_nl]
  simp[hjl,nl]
 ·intro u hu
  obtain⟨y,_,rfl⟩:=List.mem_map.1 hu
  rfl
 ·intro v' w' h1 h2 h3
  refine h v' w' ?_ h2 h3
  unfold Own
  rw[List.length_append]
  simpa[nl]using h1
end
section
open Go.RowKit
def nbOf (i:Nat):Int:=dataOf i/rbdOf i
theorem nums:∀i,i<29→3≤dataOf i∧dataOf i≤1304∧5≤checkOf i∧checkOf i≤496∧3≤rbdOf i∧rbdOf i≤1304∧5≤rbeOf i∧rbeOf i≤68∧1≤nbOf i∧nbOf i≤8∧nbOf i*rbdOf i=dataOf i∧nbOf i*rbeOf i=checkOf i:=by decide+kernel
def tOf (i:Nat):Nat:=facSets.idxOf (rbeOf i)
theorem tOf_ok:∀i,i<29→tOf i<16∧((facN (tOf i)).length:Int)=rbeOf i:=by decide+kernel
theorem si_f (w:World) (b i:Nat) (hi:i<29) (h:w.heap[b]? =some (.cells (siOf i) 112)):w.cell? ⟨b,8,none⟩=some (.func (.func 143) #[] #[])∧w.cell? ⟨b,9,none⟩=some (.func (.func 144) #[] #[]):=by
 have h29:i≠29:=by omega
 constructor
 ·rw[cell_blk h];simp[siOf,siC,h29]
 ·rw[cell_blk h];simp[siOf,siC,h29]
theorem nb143 (b i:Nat) (w:World) (hi:i<29) (h:w.heap[b]? =some (.cells (siOf i) 112)):
 Calls Tryz.prog 143 #[.pointer (some ⟨b,0,none⟩)] w fun e w'=>e= .returned (.int .i64 (nbOf i))∧∃n,w'=w.drewN n:=by
 have c1:=si_data h
 have c6:=si_rbd h
 obtain⟨n1,n2,_,_,n3,n4,_⟩:=nums i hi
 have hq:IntKind.i64.wrap ((dataOf i).tdiv (rbdOf i))=nbOf i:=IntWalk.i64_quo _ _ (by omega)
 have hne:((rbdOf i)==0)=false:=by rw[beq_eq_false_iff_ne];omega
 have H:=Lib.hid h
 clear h
 go_enter Tryz.func143,Tryz.ntmps143
 go_wp2
 go_quiet (fail)
 go_wp2
 go_ret
 exact⟨rfl,_,rfl⟩
theorem nb_calls (b i:Nat) (w:World) (hi:i<29) (h:w.heap[b]? =some (.cells (siOf i) 112)):
 Calls Tryz.prog 110 #[.pointer (some ⟨b,0,none⟩)] w fun e w'=>e= .returned (.int .i64 (nbOf i))∧∃n,w'=w.drewN n:=by
 obtain⟨c8,_⟩:=si_f w b i hi h
 have H:=Lib.hid h
 clear h
 go_enter Tryz.func110,Tryz.ntmps110
 go_wp2_with (go_at_call 143;refine(nb143 b i _ hi H.out).mono ?_;rintro e w' ⟨rfl,n,rfl⟩)
 go_ret
 exact⟨rfl,_,rfl⟩
theorem step1 {w w1:World} {o:Obj} {n c:Nat} (hg:(w.alloc o).grownBy w1 (Value.slice (some ⟨w.heap.size,0,none⟩) n c).ownBlock):Below w.heap.size w w1:=
 ((Below.refl _ _).alloc (Nat.le_refl _) _).grown hg (by simp) (fun k hk=>by simp only[Value.ownBlock,Option.some.injEq]at hk;omega)
def EncPost (out:List Nat) (w:World) (e:Ending) (w':World):Prop:=
 ∃v,e= .returned (.tuple #[v,.nilIface])∧Own w' w.heap.size .u8 5 v out∧Below w.heap.size w w'
set_option maxRecDepth 100000 in
set_option maxHeartbeats 4000000 in
theorem enc1_calls (b i cb cap:Nat) (data:List Nat) (w:World) (hi:i<29) (h:w.heap[b]? =some (.cells (siOf i) 112)) (h1:dataOf i=rbdOf i)
 (hl:(data.length:Int)=dataOf i) (hs:Small data) (hcw:Bytes w cb data):
 Calls Tryz.prog 59 #[.slice (some ⟨cb,0,none⟩) data.length cap,.pointer (some ⟨b,0,none⟩)] w (EncPost (data++eccOut (facN (tOf i)) data) w):=by
 have hnb:nbOf i=1:=by
  have:∀i,i<29→dataOf i=rbdOf i→nbOf i=1:=by decide+kernel
  exact this i hi h1
 have hck:checkOf i=rbeOf i:=by
  have:∀i,i<29→dataOf i=rbdOf i→checkOf i=rbeOf i:=by decide+kernel
  exact this i hi h1
 obtain⟨n1,n2,n3,n4,_,_,n5,n6,_⟩:=nums i hi
 obtain⟨t1,t2⟩:=tOf_ok i hi
 have c1:=si_data h
 have c2:=si_check h
 rw[←hl]at c1
 rw[hck,←t2]at c2
 have H:=Lib.hid h
 have HNB:=Lib.hid hnb
 have HCW:=Lib.hid hcw
 have hn:5≤(facN (tOf i)).length∧(facN (tOf i)).length≤68:=by omega
 have hd:3≤data.length∧data.length≤1304:=by omega
 have hmk:=make49 0 ((data.length:Int)+((facN (tOf i)).length:Int)) (by omega) (by omega) (by omega)
 rw[show ((data.length:Int)+((facN (tOf i)).length:Int)).toNat=data.length+(facN (tOf i)).length by omega]at hmk
 clear h hnb hck h1 hl t2 hcw n1 n2 n3 n4 n5 n6
 go_enter Tryz.func59,Tryz.ntmps59
 have hbl:b<w.heap.size:=(Array.getElem?_eq_some_iff.1 H.out).1
 go_wp2_with (first|(refine app49 rfl (.tmp 34) (.tmp 35) rfl w.heap.size _ [] rfl (Own.of_room (c:=data.length+(facN (tOf i)).length) (by rw[alloc_heap];exact Array.getElem?_push_size) (by simp) (Nat.le_refl _) (by simp only[maxLen];omega)) cb data.length cap data rfl rfl (HCW.out.alloc _) (by simp;omega) (by simp) ?_;intro v1 w1 hown1 hg1 hne1;rw[List.nil_append]at hown1;have hb1:=step1 hg1;have d1:=(hb1.cell (p:=⟨b,1,none⟩) hbl).trans c1;have d2:=(hb1.cell (p:=⟨b,2,none⟩) hbl).trans c2;have H1:=Lib.hid ((hb1.block b hbl).trans H.out);have HC1:=Lib.hid (HCW.out.below hb1 HCW.out.1);have HO1:=Lib.hid hown1;have HB1:=Lib.hid hb1;clear hown1 hg1 hne1 hb1)|(go_at_call 110;refine(nb_calls b i _ hi H1.out).mono ?_;rintro e w' ⟨rfl,n,rfl⟩;rw[HNB.out])|(go_at_call 111;refine(ecc_calls (tOf i) t1 data cb cap _ (by omega) hs (Bytes.drewN HC1.out n)).mono ?_;rintro e w2 ⟨rb,hrb,rfl,hrow,hb2⟩;have HO2:=Lib.hid (Own.below (Own.drewN HO1.out n) hb2 (fun g hg=>(HO1.out.lt g hg).2));have HR2:=Lib.hid (Bytes.of_row hrow);have HB2:=Lib.hid ((below_dr HB1.out n).trans (hb2.mono HB1.out.size));clear hrow hb2)|(refine app49 rfl (.tmp 52) (.tmp 53) rfl w.heap.size _ data rfl HO2.out rb _ _ (eccOut (facN (tOf i)) data) rfl (by rw[eccOut_len]) HR2.out (by rw[eccOut_len];omega) HB2.out.size ?_;intro v3 w3 hown3 hg3 hne3)|(go_at_call 96;go_in)|(go_at_call 109;go_in))
 go_ret2
 exact⟨v3,rfl,hown3,HB2.out.grown hg3 HB2.out.size (fun g hg=>(HO2.out.lt g hg).1)⟩
end
end Go.Proofs.YtcnallabiffemaaGreatDoor
