/- createECCBlock answers the check codewords of a block. -/
import Derived.Test.YtcnallabiffemaaGreatDoorZb
import Derived.BigRegion
set_option linter.unusedVariables false
set_option linter.unusedSimpArgs false
namespace Go.Proofs.YtcnallabiffemaaGreatDoor
section
open Go.RowKit
def facSets:List Int:=[5,7,10,11,12,14,18,20,24,28,36,42,48,56,62,68]
def facTab:List (List Int):=[
 [228,48,15,111,62],
 [23,68,144,134,240,92,254],
 [28,24,185,166,223,248,116,255,110,61],
 [175,138,205,12,194,168,39,245,60,97,120],
 [41,153,158,91,61,42,142,213,97,178,100,242],
 [156,97,192,252,95,9,157,119,138,45,18,186,83,185],
 [83,195,100,39,188,75,66,61,241,213,109,129,94,254,225,48,90,188],
 [15,195,244,9,233,71,168,2,188,160,153,145,253,79,108,82,27,174,186,172],
 [52,190,88,205,109,39,176,21,155,197,251,223,155,21,5,172,254,124,12,181,184,96,50,193],
 [211,231,43,97,71,96,103,174,37,151,170,53,75,34,249,121,17,138,110,213,141,136,120,151,233,168,93,255],
 [245,127,242,218,130,250,162,181,102,120,84,179,220,251,80,182,229,18,2,4,68,33,101,137,95,119,115,44,175,184,59,25,225,98,81,112],
 [77,193,137,31,19,38,22,153,247,105,122,2,245,133,242,8,175,95,100,9,167,105,214,111,57,121,21,1,253,57,54,101,248,202,69,50,150,177,226,5,9,5],
 [245,132,172,223,96,32,117,22,238,133,238,231,205,188,237,87,191,106,16,147,118,23,37,90,170,205,131,88,120,100,66,138,186,240,82,44,176,87,187,147,160,175,69,213,92,253,225,19],
 [175,9,223,238,12,17,220,208,100,29,175,170,230,192,215,235,150,159,36,223,38,200,132,54,228,146,218,234,117,203,29,232,144,238,22,150,201,117,62,207,164,13,137,245,127,67,247,28,155,43,203,107,233,53,143,46],
 [242,93,169,50,144,210,39,118,202,188,201,189,143,108,196,37,185,112,134,230,245,63,197,190,250,106,185,221,175,64,114,71,161,44,147,6,27,218,51,63,87,10,40,130,188,17,163,31,176,170,4,107,232,7,94,166,224,124,86,47,11,204],
 [220,228,173,89,251,149,159,56,89,33,147,244,154,36,73,127,213,136,248,180,234,197,158,177,68,122,93,213,15,160,227,236,66,139,153,185,202,167,179,25,220,232,96,210,231,136,223,239,181,241,59,52,172,25,49,232,211,189,64,54,108,153,132,63,96,103,82,186]]
def facL (t:Nat):List Int:=facTab.getD t []
def facPtrs (B:Nat):Array Value:=((List.range 16).map fun t=> .slice (some ⟨B+t,0,none⟩) (facL t).length (facL t).length).toArray
def facObjs:List Obj:=(List.range 16).map fun t=> .cells (irow .i64 (facL t)) 3
theorem facSets_calls (w:World):
 Calls Tryz.prog 134 #[] w fun en w'=>en= .returned (.slice (some ⟨w.heap.size,0,none⟩) 16 16)∧w.alloc (.cells (irow .i64 facSets) 3)=w':=by
 go_enter Tryz.func134,Tryz.ntmps134
 go_wp2
 go_ret
 exact⟨rfl,rfl⟩
set_option maxRecDepth 100000 in
set_option maxHeartbeats 4000000 in
theorem factors_any (w:World):
 Calls Tryz.prog 135 #[] w fun en w'=>en= .returned (.slice (some ⟨w.heap.size+16,0,none⟩) 16 16)∧(allocs w facObjs).alloc (.cells (facPtrs w.heap.size) 28)=w':=by
 go_enter Tryz.func135,Tryz.ntmps135
 go_wp2
 go_ret
 exact⟨rfl,rfl⟩
structure FacAt (w:World) (B:Nat):Prop where
 ptr:∀t,t<16→w.cell? ⟨B+16,t,none⟩=some (.slice (some ⟨B+t,0,none⟩) (facL t).length (facL t).length)
 row:∀t,t<16→Row w (B+t) .i64 3 (facL t)
theorem factors_calls (w:World):
 Calls Tryz.prog 135 #[] w fun en w'=>en= .returned (.slice (some ⟨w.heap.size+16,0,none⟩) 16 16)∧FacAt w' w.heap.size∧Below w.heap.size w w'∧w.heap.size+17≤w'.heap.size:=
 (factors_any w).mono fun e w' ⟨he,hw⟩=>by
   subst hw
   have hs:(allocs w facObjs).heap.size=w.heap.size+16:=by rw[allocs_heap];simp[facObjs]
   refine⟨he,⟨fun t ht=>?_,fun t ht=>?_⟩,(allocs_below _ _ w (Nat.le_refl _)).alloc (by omega) _,by rw[alloc_heap,Array.size_push];omega⟩
   ·have:((allocs w facObjs).alloc (.cells (facPtrs w.heap.size) 28)).heap[w.heap.size+16]? =some (.cells (facPtrs w.heap.size) 28):=by
     rw[alloc_heap,←hs];simp
    rw[cell_blk this]
    simp[facPtrs,ht]
   ·unfold Row
    rw[Below.heap_alloc _ _ _ (by omega),allocs_heap,Array.getElem?_append_right (by omega)]
    simp[facObjs,ht]
end
section
open Go.RowKit
def nl (xs:List Nat):List Int:=xs.map Int.ofNat
@[simp] theorem length_nl (xs:List Nat):(nl xs).length=xs.length:=by simp[nl]
theorem getD_nl (xs:List Nat) (i:Nat):(nl xs).getD i 0=((xs.getD i 0:Nat):Int):=by
 simp only[nl,List.getD_eq_getElem?_getD,List.getElem?_map];cases xs[i]? <;>rfl
theorem set_nl (xs:List Nat) (i v:Nat):(nl xs).set i (v:Int)=nl (xs.set i v):=by simp only[nl,List.map_set];rfl
theorem zs_nl (n:Nat):zs n=nl (List.replicate n 0):=by simp[zs,nl]
def Bytes (w:World) (b:Nat) (xs:List Nat):Prop:=b<w.heap.size∧∀i,i<xs.length→w.cell? ⟨b,i,none⟩=some (.int .u8 ((xs.getD i 0:Nat):Int))
theorem Bytes.below {w w':World} {b B:Nat} {xs:List Nat} (h:Bytes w b xs) (hb:Below B w w') (hB:b<B):Bytes w' b xs:=
 ⟨Nat.lt_of_lt_of_le h.1 hb.size,fun i hi=>(hb.cell (p:=⟨b,i,none⟩) hB).trans (h.2 i hi)⟩
theorem Bytes.of_row {w:World} {b:Nat} {T:TypeId} {xs:List Nat} (h:Row w b .u8 T (nl xs)):Bytes w b xs:=
 ⟨h.lt,fun i hi=>by rw[h.cell (by simpa using hi),getD_nl]⟩
def lg (m:Nat):Nat:=((logL 255).getD m 0).toNat
def facN (t:Nat):List Nat:=(facL t).map Int.toNat
def prodT (m p:Nat):Nat:=if m=0∨p=0 then 0 else powN ((lg m+lg p)%255)
theorem log_get {m:Nat} (h:m<256):(logL 255).getD m 0=((lg m:Nat):Int)∧lg m<255:=by
 have:∀m,m<256→(logL 255).getD m 0=((lg m:Nat):Int)∧lg m<255:=by decide+kernel
 exact this m h
theorem alog_get {i:Nat} (h:i<255):(alogL 255).getD i 0=((powN i:Nat):Int):=by
 have:∀i,i<255→(alogL 255).getD i 0=((powN i:Nat):Int):=by decide+kernel
 exact this i h
theorem fac_nl:∀t,t<16→facL t=nl (facN t)∧(∀p∈facN t,p<256):=by decide+kernel
theorem fac_len:∀t,t<16→((facN t).length:Int)=facSets.getD t 0:=by decide+kernel
def inner (m:Nat) (poly:List Nat):Nat→List Nat→List Nat
 |0,cur=>cur.set 0 (prodT m (poly.getD 0 0))
 |k+1,cur=>inner m poly k (cur.set (k+1) (cur.getD k 0 ^^^ prodT m (poly.getD (k+1) 0)))
def eccStep (poly:List Nat) (e:List Nat) (c:Nat):List Nat:=inner (e.getD (poly.length-1) 0 ^^^ c) poly (poly.length-1) e
def eccState (poly:List Nat) (cw:List Nat):List Nat:=cw.foldl (eccStep poly) (List.replicate poly.length 0)
def eccOut (poly:List Nat) (cw:List Nat):List Nat:=(eccState poly cw).reverse
def Small (xs:List Nat):Prop:=∀i,xs.getD i 0<256
theorem Small.set {xs:List Nat} (h:Small xs) {i v:Nat} (hv:v<256):Small (xs.set i v):=by
 intro j
 simp only[List.getD_eq_getElem?_getD,List.getElem?_set]
 split
 ·split
  ·exact hv
  ·simp
 ·have:=h j;simpa[List.getD_eq_getElem?_getD]using this
theorem small_zs (n:Nat):Small (List.replicate n 0):=by
 intro i
 simp only[List.getD_eq_getElem?_getD,List.getElem?_replicate]
 split<;>simp
theorem small_of_mem {xs:List Nat} (h:∀p∈xs,p<256):Small xs:=by
 intro i
 simp only[List.getD_eq_getElem?_getD]
 cases e:xs[i]? with
 |none=>simp
 |some v=>simpa using h v (List.mem_of_getElem? e)
theorem prodT_lt (m p:Nat):prodT m p<256:=by
 unfold prodT;split
 ·omega
 ·exact powN_lt _
theorem xor_lt {a b:Nat} (ha:a<256) (hb:b<256):a ^^^ b<256:=Nat.xor_lt_two_pow (n:=8) ha hb
theorem inner_ok (m:Nat) (poly:List Nat):∀k cur,Small cur→Small (inner m poly k cur)∧(inner m poly k cur).length=cur.length
 |0,cur,h=>⟨h.set (prodT_lt _ _),by simp[inner]⟩
 |k+1,cur,h=>by
  have:=inner_ok m poly k _ (h.set (i:=k+1) (xor_lt (h k) (prodT_lt m (poly.getD (k+1) 0))))
  exact⟨this.1,this.2.trans (by simp)⟩
theorem eccStep_ok {poly e:List Nat} (c:Nat) (h:Small e):Small (eccStep poly e c)∧(eccStep poly e c).length=e.length:=inner_ok _ _ _ _ h
theorem eccState_snoc (poly cw:List Nat) (k:Nat) (h:k<cw.length):eccState poly (cw.take (k+1))=eccStep poly (eccState poly (cw.take k)) (cw.getD k 0):=by
 unfold eccState
 rw[List.take_succ_eq_append_getElem h,List.foldl_append]
 simp[h]
theorem eccState_ok (poly:List Nat):∀(cw:List Nat) (e:List Nat),Small e→e.length=poly.length→Small (cw.foldl (eccStep poly) e)∧(cw.foldl (eccStep poly) e).length=poly.length
 |[],e,h,hl=>⟨h,hl⟩
 |c::cw,e,h,hl=>eccState_ok poly cw _ (eccStep_ok c h).1 ((eccStep_ok c h).2.trans hl)
theorem eccState_small (poly cw:List Nat):Small (eccState poly cw)∧(eccState poly cw).length=poly.length:=eccState_ok poly cw _ (small_zs _) (by simp)
end
section
open Go.RowKit
structure EccMem (w0 wq:World) (eb pb lb cb:Nat) (poly cw e:List Nat):Prop where
 below:Below w0.heap.size w0 wq
 row:Row wq eb .i64 3 (nl e)
 pol:Row wq pb .i64 3 (nl poly)
 lgr:Row wq lb .i64 3 (logL 255)
 alr:Row wq (lb+1) .i64 3 (alogL 255)
 byt:Bytes wq cb cw
 base:w0.heap.size≤eb
 n1:pb<eb
 n2:lb+1<eb
 n3:cb<eb
 sm:Small e
 len:e.length=poly.length
theorem Bytes.set_ne {w:World} {b:Nat} {xs:List Nat} (h:Bytes w b xs) {a:Addr} (ha:b≠a.block) (u:Value):Bytes (w.setCell a u) b xs:=
 ⟨by have:=h.1;simpa[World.setCell]using this,fun i hi=>(World.cell?_of_block (w:=w) (a:=⟨b,i,none⟩) (Below.heap_setCell _ _ _ _ ha)).trans (h.2 i hi)⟩
theorem EccMem.set {w0 wq:World} {eb pb lb cb:Nat} {poly cw e:List Nat} (h:EccMem w0 wq eb pb lb cb poly cw e) (k v:Nat) (hv:v<256):
 EccMem w0 (wq.setCell ⟨eb,k,none⟩ (.int .i64 (v:Int))) eb pb lb cb poly cw (e.set k v) where
 below:=h.below.setCell h.base _
 row:=by have:=h.row.set k (v:Int);rwa [set_nl]at this
 pol:=h.pol.set_ne (by have:=h.n1;simp;omega) _
 lgr:=h.lgr.set_ne (by have:=h.n2;simp;omega) _
 alr:=h.alr.set_ne (by have:=h.n2;simp;omega) _
 byt:=h.byt.set_ne (by have:=h.n3;simp;omega) _
 base:=h.base
 n1:=h.n1
 n2:=h.n2
 n3:=h.n3
 sm:=h.sm.set hv
 len:=by simpa using h.len
theorem EccMem.drewN {w0 wq:World} {eb pb lb cb:Nat} {poly cw e:List Nat} (h:EccMem w0 wq eb pb lb cb poly cw e) (n:Nat):EccMem w0 (wq.drewN n) eb pb lb cb poly cw e:=
 ⟨⟨h.below.os,h.below.tape,h.below.output,h.below.size,h.below.block⟩,h.row,h.pol,h.lgr,h.alr,h.byt,h.base,h.n1,h.n2,h.n3,h.sm,h.len⟩
theorem EccMem.drew {w0 wq:World} {eb pb lb cb:Nat} {poly cw e:List Nat} (h:EccMem w0 wq eb pb lb cb poly cw e):EccMem w0 wq.drew eb pb lb cb poly cw e:=h.drewN 1
theorem prod_nz {m p z:Nat} (hz:¬(m=0∨p=0)) (h:z=powN ((lg m+lg p)%255)):prodT m p=z:=by unfold prodT;rw[if_neg hz,h]
theorem prod_z {m p:Nat} (hz:m=0∨p=0):prodT m p=0:=by unfold prodT;rw[if_pos hz]
theorem inner_step {m q y p z:Nat} {poly e r:List Nat} (hI:inner m poly (q+1) e=r) (hy:y=e.getD q 0) (hp:p=poly.getD (q+1) 0) (hz:prodT m p=z):inner m poly q (e.set (q+1) (y ^^^ z))=r:=by
 rw[←hI,inner,←hy,←hp,hz]
theorem inner_last {m p z:Nat} {poly e r:List Nat} (hI:inner m poly 0 e=r) (hp:p=poly.getD 0 0) (hz:prodT m p=z):e.set 0 z=r:=by
 rw[←hI,inner,←hp,hz]
theorem ecc_next {S E e0 poly:List Nat} {x c m cj:Nat} (hE:S=eccStep poly e0 cj) (hx:x=e0.getD (poly.length-1) 0) (hc:c=cj) (hm:m=x ^^^ c) (hL:E=inner m poly (poly.length-1) e0):E=S:=by
 rw[hL,hE,eccStep,hm,hx,hc]
def outTo (S:List Nat):Nat→List Nat
 |0=>List.replicate S.length 0
 |i+1=>(outTo S i).set i (S.getD (S.length-i-1) 0)
theorem outTo_len (S:List Nat) (i:Nat):(outTo S i).length=S.length:=by induction i<;>simp_all [outTo]
theorem outTo_get (S:List Nat):∀i,i≤S.length→∀j,j<i→(outTo S i).getD j 0=S.getD (S.length-j-1) 0:=by
 intro i
 induction i with
 |zero=>intro _ j hj;omega
 |succ i ih=>
  intro hi j hj
  have hl:=outTo_len S i
  rw[outTo,List.getD_eq_getElem?_getD,List.getElem?_set]
  by_cases e:i=j
  ·subst e
   rw[if_pos rfl,if_pos (by omega)];rfl
  ·rw[if_neg e,←List.getD_eq_getElem?_getD]
   exact ih (by omega) j (by omega)
theorem outTo_full (S:List Nat):outTo S S.length=S.reverse:=by
 apply List.ext_getElem
 ·simp[outTo_len]
 ·intro i h1 h2
  have hl:=outTo_len S S.length
  have:=outTo_get S S.length (Nat.le_refl _) i (by omega)
  rw[List.getD_eq_getElem?_getD,List.getD_eq_getElem?_getD,List.getElem?_eq_getElem h1,List.getElem?_eq_getElem (by omega)]at this
  simp only[Option.getD_some]at this
  rw[this,List.getElem_reverse]
  congr 1
  omega
def EccPost (poly cw:List Nat) (w:World) (e:Ending) (w':World):Prop:=
 ∃b,w.heap.size≤b∧e= .returned (.tuple #[.slice (some ⟨b,0,none⟩) poly.length poly.length,.nilIface])∧Row w' b .u8 5 (nl (eccOut poly cw))∧Below w.heap.size w w'
theorem fac_small (t:Nat) (ht:t<16):Small (facN t):=small_of_mem (fac_nl t ht).2
theorem facSets_calls' (w:World):
 Calls Tryz.prog 134 #[] w fun en w'=>en= .returned (.slice (some ⟨w.heap.size,0,none⟩) 16 16)∧Row w' w.heap.size .i64 3 facSets∧Below w.heap.size w w'∧w.heap.size+1≤w'.heap.size:=
 (facSets_calls w).mono fun e w' ⟨he,hw⟩=>by subst hw;exact⟨he,Row.new _ _ _ _,(Below.refl _ _).alloc (Nat.le_refl _) _,by simp⟩
set_option maxRecDepth 100000 in
set_option maxHeartbeats 8000000 in
theorem ecc_calls (t:Nat) (ht:t<16) (cw:List Nat) (cb cap:Nat) (w:World) (hl:cw.length≤4000) (hs:Small cw) (hcw:Bytes w cb cw):
 Calls Tryz.prog 111 #[.slice (some ⟨cb,0,none⟩) cw.length cap,.int .i64 (facN t).length] w (EccPost (facN t) cw w):=by
 have hn:=fac_len t ht
 have hn1:5≤(facN t).length∧(facN t).length≤68:=by
  have:∀t,t<16→5≤(facN t).length∧(facN t).length≤68:=by decide+kernel
  exact this t ht
 have hne:∀j,j<t→((facSets[j]?.getD 0==((facN t).length:Int))=false):=by
  have:∀t,t<16→∀j,j<t→((facSets[j]?.getD 0==((facN t).length:Int))=false):=by decide+kernel
  exact this t ht
 have hset:(facSets[t]?.getD 0==((facN t).length:Int))=true:=by rw[hn];simp
 have HN:=Lib.hid hn
 have HNE:=Lib.hid hne
 have HSET:=Lib.hid hset
 have HCW:=Lib.hid hcw
 clear hn hne hset hcw
 go_enter Tryz.func111,Tryz.ntmps111
 go_wp2
 go_loopw [7] (fun i wr=>∃k:Nat,k≤t∧i= .int .i64 k∧Below w.heap.size w wr) (fun i _=>16-(intOf i).toNat)
 case atStart=>exact⟨0,by omega,rfl,Below.refl _ _⟩
 case round=>
  obtain⟨k,hk,rfl,hb⟩:=hrel
  have HB:=Lib.hid hb
  clear hb
  by_cases hkt:k=t
  ·subst hkt
   have h1:=HSET.out
   have hmk:=make28 ((facN k).length:Int) (by omega) (by omega)
   have hfl:(facL k).length=(facN k).length:=by rw[(fac_nl k ht).1];simp
   rw[Int.toNat_natCast]at hmk
   go_wp2_with (first|(go_at_call 134;refine(facSets_calls' _).mono ?_;rintro e w1 ⟨rfl,hr1,hb1,hz1⟩;have c1:=hr1.cell (i:=k) (by show k<16;omega);clear hr1;have HBx:=Lib.hid (HB.out.trans (hb1.mono (HB.out.size)));clear hb1 HB;have HB:=HBx;clear HBx)|(go_at_call 135;refine(factors_calls _).mono ?_;rintro e w2 ⟨rfl,hfa,hb2,hz2⟩;have c2:=hfa.ptr k ht;have HF:=Lib.hid (hfa.row k ht);clear hfa;have HBx:=Lib.hid (HB.out.trans (hb2.mono (HB.out.size)));clear hb2 HB;have HB:=HBx;clear HBx)|(go_at_call 136;refine(tables_calls _).mono ?_;rintro e w3 ⟨rfl,hb3,hz3,hl3,ha3⟩;have HL:=Lib.hid hl3;have HA:=Lib.hid ha3;have HFx:=Lib.hid (HF.out.below hb3 (by omega));clear HF;have HF:=HFx;have HBx:=Lib.hid (HB.out.trans (hb3.mono (HB.out.size)));clear hb3 HB HFx hl3 ha3;have HB:=HBx;clear HBx))
   have hmem:EccMem w (w3.alloc (Obj.cells (irow IntKind.i64 (zs (facN k).length)) 3)) w3.heap.size (w1.heap.size+k) w2.heap.size cb (facN k) cw (eccState (facN k) (cw.take 0)):=by
    have hB:=HB.out
    have hcb:=HCW.out.1
    have hF:=HF.out
    refine⟨hB.alloc hB.size _,?_,?_,HL.out.alloc _,HA.out.alloc _,(HCW.out.below hB (by omega)).below ((Below.refl w3.heap.size _).alloc (Nat.le_refl _) _) ?_,hB.size,?_,HA.out.lt,?_,small_zs _,by simp[eccState]⟩
    ·have:=Row.new w3 .i64 3 (zs (facN k).length)
     rw[zs_nl]at this ⊢;exact this
    ·rw[←(fac_nl k ht).1];exact hF.alloc _
    ·have:=hB.size;omega
    ·have:=hF.lt;omega
    ·have:=hB.size;omega
   generalize w3.alloc (Obj.cells (irow IntKind.i64 (zs (facN k).length)) 3)=wq at hmem ⊢
   generalize w3.heap.size=eb at hmem ⊢
   generalize w1.heap.size+k=pb at hmem ⊢
   generalize w2.heap.size=lb at hmem ⊢
   have hN:=fac_small k ht
   clear HF HL HA hz1 HB hmk hfl HN HNE HSET h1
   have HM:=Lib.hid hmem
   clear hmem
   generalize facN k=poly at*
   go_loopw [12] (fun i wr=>∃j:Nat,j≤cw.length∧i= .int .i64 j∧Hid (EccMem w wr eb pb lb cb poly cw (eccState poly (cw.take j)))) (fun i _=>cw.length-(intOf i).toNat)
   case atStart=>exact⟨0,by omega,rfl,HM⟩
   case round=>
    clear HM
    obtain⟨j,hj,rfl,HM⟩:=hrel
    by_cases hjl:j<cw.length
    ·have hst:=eccState_small poly (cw.take j)
     have hE:=Lib.hid (eccState_snoc poly cw j hjl)
     generalize eccState poly (cw.take j)=e0 at HM hst hE
     obtain⟨hsm,hle⟩:=hst
     have hm:=HM.out
     have d1:=hm.row.cell (i:=poly.length-1) (by rw[length_nl,hle];omega)
     rw[getD_nl]at d1
     have d2:=hm.byt.2 j hjl
     have x1:=hsm (poly.length-1)
     have x2:=hs j
     obtain⟨x,hx⟩:∃x,x=e0.getD (poly.length-1) 0:=⟨_,rfl⟩
     obtain⟨c,hc⟩:∃c,c=cw.getD j 0:=⟨_,rfl⟩
     rw[←hx]at d1 x1
     rw[←hc]at d2 x2
     have HX:=Lib.hid hx
     have HC:=Lib.hid hc
     clear hm hx hc
     have hxor:=xor64 x c (by omega) (by omega)
     have hmlt:=xor_lt x1 x2
     obtain⟨m,hm⟩:∃m,m=x ^^^ c:=⟨_,rfl⟩
     rw[←hm]at hxor hmlt
     have HMX:=Lib.hid hm
     clear hm
     have i1:IntKind.i64.wrap ((poly.length:Int)-1)=(poly.length:Int)-1:=IntWalk.i64_in _ (by omega)
     have i2:((poly.length:Int)-1).toNat=poly.length-1:=by omega
     have i3:(0:Int)≤(poly.length:Int)-1:=by omega
     go_wp2
     go_quiet (fail)
     clear i1 i2 i3 d1 d2 hxor
     go_wp2
     have HM2:=Lib.hid (HM.out.drewN nq)
     clear HM
     generalize wr.drewN nq=wz at HM2 ⊢
     go_loopw [14] (fun kk wi=>∃q:Nat,q≤poly.length-1∧kk= .int .i64 q∧∃e,Hid (inner m poly q e=inner m poly (poly.length-1) e0)∧Hid (EccMem w wi eb pb lb cb poly cw e)) (fun kk _=>(intOf kk).toNat)
     case atStart=>exact⟨poly.length-1,by omega,by congr 1;omega,e0,Lib.hid rfl,HM2⟩
     case round=>
      clear HM2
      obtain⟨q,hq,rfl,e,HI,HM3⟩:=hrel
      rcases q with _|q
      ·have hm:=HM3.out
       have hel:=hm.len
       have c2:=hm.row.cell (i:=0) (by rw[length_nl];omega)
       have c3:=hm.pol.cell (i:=0) (by rw[length_nl];omega)
       rw[getD_nl]at c2 c3
       have f2:=hm.row.free 0
       obtain⟨p,hp⟩:∃p,p=poly.getD 0 0:=⟨_,rfl⟩
       have p1:=hN 0
       rw[←hp]at c3 p1
       have HP:=Lib.hid hp
       clear hp
       have i0:(((0:Nat):Nat):Int)=0:=rfl
       rw[i0]
       by_cases hz:m=0∨p=0
       ·have HS:=Lib.hid (hm.set 0 0 (by omega))
        have HL:=Lib.hid (inner_last HI.out HP.out (prod_z hz))
        by_cases hm0:m=0
        ·have m0:((m:Int) !=0)=false:=by rw[hm0];rfl
         clear hm hm0 hz
         go_wp2
         have hfin:=ecc_next hE.out HX.out HC.out HMX.out HL.out
         rw[hfin]at HS
         exact⟨⟨j+1,by omega,by go_num,HS⟩,by simp[intOf];omega⟩
        ·have m0:((m:Int) !=0)=true:=by rw[bne_iff_ne];omega
         have p0:((p:Int) !=0)=false:=by rw[show p=0 by omega];rfl
         clear hm hm0 hz
         go_wp2
         have hfin:=ecc_next hE.out HX.out HC.out HMX.out HL.out
         rw[hfin]at HS
         exact⟨⟨j+1,by omega,by go_num,HS⟩,by simp[intOf];omega⟩
       ·have m0:((m:Int) !=0)=true:=by rw[bne_iff_ne];omega
        have p0:((p:Int) !=0)=true:=by rw[bne_iff_ne];omega
        obtain⟨l1,b1⟩:=log_get hmlt
        obtain⟨l2,b2⟩:=log_get p1
        have c4:=hm.lgr.cell (i:=m) (by rw[length_logL];omega)
        have c5:=hm.lgr.cell (i:=p) (by rw[length_logL];omega)
        rw[l1]at c4
        rw[l2]at c5
        have c6:=hm.alr.cell (i:=(lg m+lg p)%255) (by rw[length_alogL];omega)
        rw[alog_get (by omega)]at c6
        have pw:=powN_lt ((lg m+lg p)%255)
        have HL:=Lib.hid (inner_last HI.out HP.out (prod_nz hz rfl))
        have HS:=Lib.hid (hm.set 0 _ pw)
        clear l1 l2 hm
        generalize lg m=u at*
        generalize lg p=v at*
        generalize powN ((u+v)%255)=z at*
        have i4:(((u:Int)+(v:Int))%255).toNat=(u+v)%255:=by omega
        have i5:(0:Int)≤((u:Int)+(v:Int))%255:=by omega
        go_wp2
        go_region
        go_wp2
        have hfin:=ecc_next hE.out HX.out HC.out HMX.out HL.out
        rw[hfin]at HS
        exact⟨⟨j+1,by omega,by go_num,HS.out.drew⟩,by simp[intOf];omega⟩
      ·have hm:=HM3.out
       have hel:=hm.len
       have c1:=hm.row.cell (i:=q) (by rw[length_nl];omega)
       have c2:=hm.row.cell (i:=q+1) (by rw[length_nl];omega)
       have c3:=hm.pol.cell (i:=q+1) (by rw[length_nl];omega)
       rw[getD_nl]at c1 c2 c3
       have f2:=hm.row.free (q+1)
       obtain⟨y,hy⟩:∃y,y=e.getD q 0:=⟨_,rfl⟩
       obtain⟨p,hp⟩:∃p,p=poly.getD (q+1) 0:=⟨_,rfl⟩
       have y1:=hm.sm q
       have p1:=hN (q+1)
       rw[←hy]at c1 y1
       rw[←hp]at c3 p1
       have HY:=Lib.hid hy
       have HP:=Lib.hid hp
       clear hy hp
       have i0:((q+1:Nat):Int)=(q:Int)+1:=by omega
       rw[i0]
       by_cases hz:m=0∨p=0
       ·have HS:=Lib.hid (hm.set (q+1) y y1)
        have HL:=Lib.hid (inner_step HI.out HY.out HP.out (prod_z hz))
        rw[Nat.xor_zero]at HL
        by_cases hm0:m=0
        ·have m0:((m:Int) !=0)=false:=by rw[hm0];rfl
         clear hm hm0 hz
         go_wp2
         exact⟨⟨q,by omega,by go_num,_,HL,HS⟩,by simp[intOf]⟩
        ·have m0:((m:Int) !=0)=true:=by rw[bne_iff_ne];omega
         have p0:((p:Int) !=0)=false:=by rw[show p=0 by omega];rfl
         clear hm hm0 hz
         go_wp2
         exact⟨⟨q,by omega,by go_num,_,HL,HS⟩,by simp[intOf]⟩
       ·have m0:((m:Int) !=0)=true:=by rw[bne_iff_ne];omega
        have p0:((p:Int) !=0)=true:=by rw[bne_iff_ne];omega
        obtain⟨l1,b1⟩:=log_get hmlt
        obtain⟨l2,b2⟩:=log_get p1
        have c4:=hm.lgr.cell (i:=m) (by rw[length_logL];omega)
        have c5:=hm.lgr.cell (i:=p) (by rw[length_logL];omega)
        rw[l1]at c4
        rw[l2]at c5
        have c6:=hm.alr.cell (i:=(lg m+lg p)%255) (by rw[length_alogL];omega)
        rw[alog_get (by omega)]at c6
        have pw:=powN_lt ((lg m+lg p)%255)
        have HL:=Lib.hid (inner_step HI.out HY.out HP.out (prod_nz hz rfl))
        have HS:=Lib.hid (hm.set (q+1) _ (xor_lt y1 pw))
        clear l1 l2 hm
        generalize lg m=u at*
        generalize lg p=v at*
        generalize powN ((u+v)%255)=z at*
        have hxor:=xor64 y z (by omega) (by omega)
        have i4:(((u:Int)+(v:Int))%255).toNat=(u+v)%255:=by omega
        have i5:(0:Int)≤((u:Int)+(v:Int))%255:=by omega
        go_wp2
        go_region
        go_wp2
        exact⟨⟨q,by omega,by go_num,_,HL,HS.out.drew⟩,by simp[intOf]⟩
    ·obtain rfl:j=cw.length:=by omega
     rw[List.take_length]at HM
     have hst:=eccState_small poly cw
     have hmk:=make49 (poly.length:Int) (poly.length:Int) (by omega) (by omega) (by omega)
     rw[Int.toNat_natCast]at hmk
     go_wp2
     have hm:=HM.out
     have hrow:Row (wr.alloc (Obj.cells (irow IntKind.u8 (zs poly.length)) 5)) wr.heap.size .u8 5 (nl (outTo (eccState poly cw) 0)):=by
      have:=Row.new wr .u8 5 (zs poly.length)
      rw[zs_nl]at this ⊢
      rw[outTo,hst.2];exact this
     have her:Row (wr.alloc (Obj.cells (irow IntKind.u8 (zs poly.length)) 5)) eb .i64 3 (nl (eccState poly cw)):=hm.row.alloc _
     have hbw:Below w.heap.size w (wr.alloc (Obj.cells (irow IntKind.u8 (zs poly.length)) 5)):=hm.below.alloc hm.below.size _
     have hlt:eb<wr.heap.size:=hm.row.lt
     have hbs:w.heap.size≤wr.heap.size:=hm.below.size
     have heo:Hid ((eccState poly cw).reverse=eccOut poly cw):=rfl
     clear hm HM hmk
     generalize eccState poly cw=S at*
     obtain⟨hsm,hlen⟩:=hst
     generalize wr.alloc (Obj.cells (irow IntKind.u8 (zs poly.length)) 5)=wa at*
     generalize wr.heap.size=rb at*
     have R1:=Lib.hid hrow
     have R2:=Lib.hid her
     have R3:=Lib.hid hbw
     have R4:=Lib.hid hlen
     clear hrow her hbw hlen
     go_loopw [16] (fun i wo=>∃q:Nat,q≤poly.length∧i= .int .i64 q∧Hid (Row wo rb .u8 5 (nl (outTo S q)))∧Hid (Row wo eb .i64 3 (nl S))∧Hid (Below w.heap.size w wo)) (fun i _=>poly.length-(intOf i).toNat)
     case atStart=>exact⟨0,by omega,rfl,R1,R2,R3⟩
     case round=>
      clear R1 R2 R3
      obtain⟨q,hq,rfl,R1,R2,R3⟩:=hrel
      by_cases hlq:q<poly.length
      ·have c1:=R2.out.cell (i:=poly.length-q-1) (by rw[length_nl,R4.out];omega)
       have c2:=R1.out.cell (i:=q) (by rw[length_nl,outTo_len,R4.out];omega)
       rw[getD_nl]at c1 c2
       have f2:=R1.out.free q
       have b1:=hsm (poly.length-q-1)
       have S1:=R1.out.set q ((S.getD (poly.length-q-1) 0:Nat):Int)
       rw[set_nl,show (outTo S q).set q (S.getD (poly.length-q-1) 0)=outTo S (q+1) by rw[outTo,R4.out]]at S1
       have S1':=Lib.hid S1
       have S2':=Lib.hid (R2.out.set_ne (a:=⟨rb,q,none⟩) (by simp;omega) (.int .u8 ((S.getD (poly.length-q-1) 0:Nat):Int)))
       have S3':=Lib.hid (R3.out.setCell (p:=⟨rb,q,none⟩) hbs (.int .u8 ((S.getD (poly.length-q-1) 0:Nat):Int)))
       clear S1
       generalize S.getD (poly.length-q-1) 0=z at*
       have i1:((poly.length:Int)-(q:Int)-1).toNat=poly.length-q-1:=by omega
       go_wp2
       exact⟨⟨q+1,by omega,by go_num,S1',S2',S3'⟩,by simp[intOf];omega⟩
      ·obtain rfl:q=poly.length:=by omega
       go_wp2
       go_ret2
       refine⟨rb,hbs,rfl,?_,R3.out⟩
       have:=R1.out
       rw[←R4.out,outTo_full,heo.out]at this
       exact this
  ·have h1:=HNE.out k (by omega)
   go_wp2_with (go_at_call 134;refine(facSets_calls' _).mono ?_;rintro e w1 ⟨rfl,hr1,hb1,hz1⟩;have c1:=hr1.cell (i:=k) (by show k<16;omega);clear hr1;have HBx:=Lib.hid (HB.out.trans (hb1.mono (HB.out.size)));clear hb1 HB;have HB:=HBx;clear HBx)
   exact⟨⟨k+1,by omega,by go_num,HB.out⟩,by simp[intOf];omega⟩
end
end Go.Proofs.YtcnallabiffemaaGreatDoor
