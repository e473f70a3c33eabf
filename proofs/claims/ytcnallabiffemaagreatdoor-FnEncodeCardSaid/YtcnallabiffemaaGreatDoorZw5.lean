/- FnHighLevel: the walk. -/
import Derived.Test.YtcnallabiffemaaGreatDoorZw2
import Derived.Test.YtcnallabiffemaaGreatDoorZw3
import Derived.Test.YtcnallabiffemaaGreatDoorZx3
import Derived.Test.YtcnallabiffemaaGreatDoorZqz
import Derived.Test.YtcnallabiffemaaGreatDoorZh1
set_option linter.unusedVariables false
set_option linter.unusedSimpArgs false
namespace Go.Proofs.YtcnallabiffemaaGreatDoor
open Go.RowKit
theorem txt_eq (s:ByteArray):txt s=s.data.toList.map UInt8.toNat:=by unfold txt;rw[ByteArray.toList_eq]
theorem txt_len (s:ByteArray):(txt s).length=s.size:=by rw[txt_eq,List.length_map,Array.length_toList];rfl
theorem txt_get (s:ByteArray) (k:Nat) (h:k<s.size):(s[k]'h).toNat=(txt s).getD k 0:=by
 have h':k<s.data.size:=h
 rw[txt_eq,List.getD_eq_getElem?_getD,List.getElem?_map,Array.getElem?_toList,Array.getElem?_eq_getElem h']
 rfl
theorem txt_nums (s:ByteArray):strOfNums (nl (txt s))=s:=by
 cases s with
 |mk d=>
  rw[txt_eq]
  unfold strOfNums
  congr 1
  apply Array.toList_inj.1
  simp only[nl,List.map_map]
  have:((fun n:Int=>UInt8.ofNat n.toNat)∘Int.ofNat∘UInt8.toNat)=id:=by
   funext b
   simp
  first
   |(rw[this];simp)
   |(simp[Function.comp_def])
theorem head_ne {s:ByteArray} (h1:1≤s.size) (h:SimpleP s) (x:UInt8) (r:List UInt8) (hx:x=91):((s.extract 0 7).toList==x::r)=false:=by
 rw[beq_eq_false_iff_ne]
 intro e
 have h0:=h 0 h1
 have e2:(s.extract 0 7).toList.head? =some (s[0]'h1):=by
  rw[ByteArray.toList_eq]
  have h':0<s.data.size:=h1
  simp only[ByteArray.data_extract,List.head?_eq_getElem?,Array.getElem?_toList]
  rw[Array.getElem?_extract]
  have h7:0<min 7 s.data.size-0:=by omega
  simp[h',h7]
  refine⟨by omega,?_⟩
  rw[Array.getElem?_eq_getElem h']
  rfl
 rw[e]at e2
 simp only[List.head?_cons,Option.some.injEq]at e2
 rw[←e2,hx]at h0
 exact absurd h0 (by decide)
def boundN (shape:Nat):Nat:=if shape=2 then 49 else 1304
theorem FitsP.high {s:ByteArray} {shape:Nat} (h:FitsP s (shape:Int)):HighK (txt s) shape (boundN shape):=by
 obtain⟨h1,h2,h3,h4,h5,h6⟩:=h
 have hl:=txt_len s
 have hc:∀i,i<(txt s).length→clsOf ((txt s).getD i 0)<4:=fun i hi=>by
  rw[hl]at hi
  rw[←txt_get s i hi];exact h3 i hi
 have hcl:∀c∈(txt s).map clsOf,c<4:=by
  intro c hcm
  obtain⟨x,hx,rfl⟩:=List.mem_map.1 hcm
  obtain⟨i,hi,rfl⟩:=List.mem_iff_getElem.1 hx
  have:=hc i hi
  rwa [List.getD_eq_getElem?_getD,List.getElem?_eq_getElem hi,Option.getD_some]at this
 refine⟨hc,by omega,by omega,by omega,by unfold boundN;split<;>omega,fun e=>by unfold boundN;rw[if_pos e];exact Nat.le_refl _,fun k hk=>look_some1 (by omega) (by unfold boundN at hk;exact hk),fun n hn=>?_⟩
 unfold boundN
 split
 ·rename_i e
  exact codewords_le40 _ n hcl hn (by rw[List.length_map,hl];exact h6 (by omega))
 ·have:=codewords_le1000 _ n hcl hn (by rw[List.length_map,hl];exact h1)
  omega
theorem FitsP.calls46 {s:ByteArray} {shape:Nat} (h:FitsP s (shape:Int)) (w:World):Calls Tryz.prog 46 #[.string s,.int .i64 shape,.pointer none,.pointer none] w (HighE (txt s) shape w):=by
 have hK:=h.high
 have hl:=txt_len s
 have hsm:∀k,(txt s).getD k 0<128:=fun k=>by
  rcases Nat.lt_or_ge k (txt s).length with hk|hk
  ·have:=(cls_iff _).1 (hK.h4 k hk);omega
  ·rw[List.getD_eq_getElem?_getD,List.getElem?_eq_none hk];decide
 refine high_calls hK (fun w=>zz_calls (txt s) hl (txt_get s) hsm (by have:=h.1;omega) h.2.1) ⟨head_ne h.2.1 h.2.2.1 91 _ rfl,head_ne h.2.1 h.2.2.1 91 _ rfl⟩ (fun k=>by have:=hsm k;omega) w
def hasSym (n shape k:Nat):Bool:=(List.range k).any fun j=>shapedB (syN j 0) (syN j 1) shape&&syN j 4==n
theorem hasSym_succ (n shape k:Nat):hasSym n shape (k+1)=(hasSym n shape k||(shapedB (syN k 0) (syN k 1) shape&&syN k 4==n)):=by
 unfold hasSym;rw[List.range_succ,List.any_append];simp
theorem hasSym_all:∀sh,sh<3→∀i,i<29→(!(sh==1&&rectOf i)&& !(sh==2&& !rectOf i))=true→hasSym (dataOf i).toNat sh 29=true:=by decide+kernel
theorem HighG.full {msg l:List Nat} {shape i:Nat} (hs:shape<3) (h:HighG msg shape l i):hasSym l.length shape 29=true:=by
 have h1:=List.find?_some h.lk
 simp only[fitsSym,Bool.and_eq_true]at h1
 have:=hasSym_all shape hs i h.i29 (by simp only[Bool.and_eq_true];exact h1.1)
 rwa [h.dat,Int.toNat_natCast]at this
theorem fnHigh_big {s:ByteArray} {n:Int} (h:2147483647<s.size) (h2:s.size≤9223372036854775807) (w:World):Calls Tryz.prog 5 #[.string s,.int .i64 n] w (TruePost w):=by
 have g1:(2147483647:Int)<(s.size:Int):=by omega
 go_enter Tryz.func5,Tryz.ntmps5
 go_wp2
 go_ret
 exact⟨rfl,Below.refl _ _⟩
theorem fnHigh_out {s:ByteArray} {n:Int} (h:¬FitsP s n) (h2:s.size≤2147483647) (w:World):Calls Tryz.prog 5 #[.string s,.int .i64 n] w (TruePost w):=by
 have g1:¬(2147483647:Int)<(s.size:Int):=by omega
 have F8:=Lib.hid (fits_no h h2)
 clear h
 go_enter Tryz.func5,Tryz.ntmps5
 go_wp2_with (first|(go_at_call 8;refine(F8.out _).mono ?_;rintro e w1 ⟨rfl,rfl⟩)|(go_at_call 9;refine(works_calls _).mono ?_;rintro e w5 ⟨rfl,hb5⟩;have HB5:=Lib.hid hb5;clear hb5))
 go_ret
 exact⟨rfl,HB5.out⟩
theorem keep8 {wA wx w3:World} {o:Obj} {B C:Nat} {xs:List Int} (hb3:Below (wx.alloc o).heap.size (wx.alloc o) w3) (hr:Row wx B .i64 30 xs) (hbw:Below C wA wx) (hC:C≤wx.heap.size):Row w3 B .i64 30 xs∧Below C wA w3∧w3.heap[wx.heap.size]? =some o:=by
 have hl2:=hr.lt
 exact⟨(hr.alloc o).below hb3 (by simp;omega),(hbw.alloc hC o).trans (hb3.mono (by simp;omega)),(hb3.block _ (by simp)).trans (new_last rfl _)⟩
set_option maxRecDepth 100000 in
set_option maxHeartbeats 4000000 in
theorem fnHigh_in {s:ByteArray} {shape:Nat} (h:FitsP s (shape:Int)) (w:World):Calls Tryz.prog 5 #[.string s,.int .i64 shape] w (TruePost w):=by
 have hsz:=h.1
 have g1:¬(2147483647:Int)<(s.size:Int):=by omega
 have hs:shape<3:=by have:=h.2.2.2.2.1;omega
 have HF:=Lib.hid h
 have HC:=Lib.hid h.calls46
 have htl:=h.high.h1
 have HSN:=Lib.hid (txt_nums s)
 clear h
 generalize txt s=msg at*
 go_enter Tryz.func5,Tryz.ntmps5
 go_wp2_with (first
  |(go_at_call 8;refine(fits_yes HF.out _).mono ?_;rintro e w1 ⟨rfl,rfl⟩)
  |(go_at_call 19;refine(implHigh_calls hs HC.out).mono ?_;rintro e w2 ⟨l,i,g,cap,rfl,hg,hi,hb⟩;have HG:=Lib.hid hg;have HI:=Lib.hid hi;have HB:=Lib.hid hb;clear hg hi hb))
 have hl1:=HG.out.n1
 have hl2:=HG.out.n2
 have hsm:=Lib.hid (small_of_mem HG.out.sm)
 have HL:=Lib.hid (HG.out.full hs)
 clear HC g1 hsz
 go_loopw [32] (fun x wr=>∃k:Nat,k≤l.length∧x= .int .i64 k∧wr=w2) (fun x _=>l.length-(intOf x).toNat)
 case atStart=>exact⟨0,by omega,rfl,rfl⟩
 case round=>
  obtain⟨k,hk,rfl,rfl⟩:=hrel
  by_cases hlt:k<l.length
  ·have hli:(k:Int)<(l.length:Int):=by omega
   have hx:=HI.out.2 k hlt
   have hz:=hsm.out k
   generalize l.getD k 0=z at*
   have z1:¬(z:Int)<0:=by omega
   have z2:¬(255:Int)<(z:Int):=by omega
   have z3:¬(z:Int)>255:=by omega
   go_wp2
   exact⟨⟨k+1,by omega,by go_num,trivial⟩,by simp[intOf];omega⟩
  ·have hli:¬(k:Int)<(l.length:Int):=by omega
   go_wp2_with (first|(go_at_call 17;refine(spSyms_calls _).mono ?_;rintro e w3 ⟨rfl,hr3,hb3,hz3⟩;have HR3:=Lib.hid hr3;have HB3:=Lib.hid hb3;clear hr3 hb3))
   clear hli
   have HI3:=Lib.hid (HI.out.below HB3.out HI.out.1)
   have HIo:=Lib.hid HI.out.1
   have HBz:=Lib.hid HB.out.size
   obtain⟨wo,rfl⟩:∃wo:World,wo=wr:=⟨_,rfl⟩
   go_loopw [45,9] (fun x f wr=>∃j:Nat,j≤29∧x= .int .i64 j∧f= .bool (hasSym l.length shape j)∧Hid (Row wr wo.heap.size .i64 30 syInts)∧Hid (Below wo.heap.size wo wr)) (fun x _ _=>29-(intOf x).toNat)
   case atStart=>exact⟨0,by omega,rfl,rfl,HR3,HB3⟩
   case round=>
    clear HR3 HB3 hz3 HI3
    obtain⟨j,hj,rfl,rfl,hr,hbw⟩:=hrel
    by_cases hlt:j<29
    ·have c0:wr.cell? ⟨wo.heap.size,j*7,none⟩=some (.int .i64 (syN j 0)):=sy_cell hr.out hlt 0 (by omega)
     have c1:=sy_cell hr.out hlt 1 (by omega)
     have c2:=sy_cell hr.out hlt 2 (by omega)
     have c3:=sy_cell hr.out hlt 3 (by omega)
     have c4:=sy_cell hr.out hlt 4 (by omega)
     have c5:=sy_cell hr.out hlt 5 (by omega)
     have c6:=sy_cell hr.out hlt 6 (by omega)
     have hji:(j:Int)<29:=by omega
     have hn:=hasSym_succ l.length shape j
     cases hf:hasSym l.length shape j with
     |true=>
      rw[hf,Bool.true_or]at hn
      have HN:=Lib.hid hn
      clear hn hf
      go_wp2
      exact⟨⟨j+1,by omega,by go_num,by rw[HN.out],hr.out.alloc _,hbw.out.alloc hbw.out.size _⟩,by simp[intOf];omega⟩
     |false=>
      rw[hf,Bool.false_or]at hn
      cases hsb:shapedB (syN j 0) (syN j 1) shape with
      |false=>
       rw[hsb,Bool.false_and]at hn
       have HN:=Lib.hid hn
       have g13:∀wx,Calls Tryz.prog 13 #[.agg #[.int .i64 (syN j 0),.int .i64 (syN j 1),.int .i64 (syN j 2),.int .i64 (syN j 3),.int .i64 (syN j 4),.int .i64 (syN j 5),.int .i64 (syN j 6)],.int .i64 shape] wx fun en w'=>en= .returned (.bool false)∧Below wx.heap.size wx w':=fun wx=>hsb▸shaped_calls _ _ _ _ _ _ _ _ hs wx
       have G:=Lib.hid g13
       clear hn hf g13 hsb
       go_wp2_with (go_at_call 13;refine(G.out _).mono ?_;rintro e w4 ⟨rfl,hb4⟩;have HB4:=Lib.hid (keep8 hb4 hr.out hbw.out hbw.out.size);clear hb4)
       exact⟨⟨j+1,by omega,by go_num,by rw[HN.out],HB4.out.1,HB4.out.2.1⟩,by simp[intOf];omega⟩
      |true=>
       rw[hsb,Bool.true_and]at hn
       have g13:∀wx,Calls Tryz.prog 13 #[.agg #[.int .i64 (syN j 0),.int .i64 (syN j 1),.int .i64 (syN j 2),.int .i64 (syN j 3),.int .i64 (syN j 4),.int .i64 (syN j 5),.int .i64 (syN j 6)],.int .i64 shape] wx fun en w'=>en= .returned (.bool true)∧Below wx.heap.size wx w':=fun wx=>hsb▸shaped_calls _ _ _ _ _ _ _ _ hs wx
       have G:=Lib.hid g13
       have hq:((syN j 4:Int)==(l.length:Int))=(syN j 4==l.length):=by
        rw[Bool.eq_iff_iff,beq_iff_eq,beq_iff_eq];omega
       rw[←hq]at hn
       have HN:=Lib.hid hn
       clear hn hf g13 hsb hq
       go_wp2_with (go_at_call 13;refine(G.out _).mono ?_;rintro e w4 ⟨rfl,hb4⟩;have HB4:=Lib.hid (keep8 hb4 hr.out hbw.out hbw.out.size);obtain⟨e0,e1,e2,e3,e4,e5,e6⟩:=cells7 HB4.out.2.2;clear hb4)
       exact⟨⟨j+1,by omega,by go_num,by rw[HN.out],HB4.out.1,HB4.out.2.1⟩,by simp[intOf];omega⟩
    ·obtain rfl:j=29:=by omega
     have hji:¬((29:Nat):Int)<29:=by omega
     have hfl:=HL.out
     have RD:Calls Tryz.prog 14 #[.slice (some ⟨g,0,none⟩) l.length cap] wr fun e w'=>e= .returned (.tuple #[.string s,.bool true])∧Below wr.heap.size wr w':=by
      have:=read_calls (lcap:=cap) (HI.out.below hbw.out HIo.out) HG.out.rd (by omega) htl
      unfold ReadPost at this
      rwa [HSN.out]at this
     have RD:=Lib.hid RD
     rw[hfl]
     clear hfl
     go_wp2_with (first|(go_at_call 14;refine RD.out.mono ?_;rintro e w5 ⟨rfl,hb5⟩;have HB5:=Lib.hid hb5;clear hb5)|(go_at_call 9;refine(works_calls _).mono ?_;rintro e w6 ⟨rfl,hb6⟩;have HB6:=Lib.hid hb6;clear hb6))
     go_ret
     have z1:=HBz.out
     have z2:=hbw.out.size
     have z3:=HB5.out.size
     exact⟨rfl,HB.out.trans ((hbw.out.mono z1).trans ((HB5.out.mono (by omega)).trans (HB6.out.mono (by omega))))⟩
end Go.Proofs.YtcnallabiffemaaGreatDoor
