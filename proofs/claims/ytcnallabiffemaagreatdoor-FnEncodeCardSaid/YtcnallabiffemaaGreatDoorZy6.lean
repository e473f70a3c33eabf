/- FnEncode: the statement. For every input the law's call returns true, and the input reads as it did. -/
import Derived.Test.YtcnallabiffemaaGreatDoorZy5
import Derived.Test.YtcnallabiffemaaGreatDoorZm4
import Derived.Test.YtcnallabiffemaaGreatDoorZj7
import Derived.Test.YtcnallabiffemaaGreatDoorZx3
import Derived.Test.YtcnallabiffemaaGreatDoorTie
import Derived.Test.YtcnallabiffemaaGreatDoorCards
import Derived.ProofKit
import Derived.OpenShut
import Derived.Lay
import Derived.ChangeMaps5
import Derived.SevenTiedAt
import Derived.Stop.Joined
set_option linter.unusedVariables false
set_option linter.unusedSimpArgs false
namespace Go.Proofs.YtcnallabiffemaaGreatDoor
section
open Go.RowKit
theorem pkg_dims:∀j,j<29→dhN (pkgIx j)=inR0 j∧dwN (pkgIx j)=inC0 j∧mhN (pkgIx j)+2=hN j∧mwN (pkgIx j)+2=wN j∧shN (pkgIx j)=syN j 0∧swN (pkgIx j)=syN j 1∧mhN (pkgIx j)%2=0∧mwN (pkgIx j)%2=0∧6≤mhN (pkgIx j)∧6≤mwN (pkgIx j)∧
 inR0 j=syN j 2*mhN (pkgIx j)∧syN j 0=syN j 2*(mhN (pkgIx j)+2)∧inC0 j=syN j 3*mwN (pkgIx j)∧syN j 1=syN j 3*(mwN (pkgIx j)+2):=by decide+kernel
theorem place_occ {rows cols:Nat} {f:PS} (hf:placeS rows cols=some f):OccI (foldS rows cols f.evs) f.occ:=(outS_sur _ _ _ _ _ hf ⟨OccI.initS rows cols,fun z hz=>by simp at hz⟩).1
theorem sym_of {j:Nat} {l:List Nat} {g:PS} (hj:j<29) (hl:l.length=syN j 4) (hs:Small l) (hg:placeG (dhN (pkgIx j)) (dwN (pkgIx j))=some g):
 ∃f,placeS (inR0 j) (inC0 j)=some f∧f.evs.length≤4000∧SymT j (modT (mwN (pkgIx j)) (mhN (pkgIx j)) (dwN (pkgIx j)) (bitsOf (pkgIx j) (wordsN j l) g)) (wordsN j l) (finishS (inR0 j) (inC0 j) (foldS (inR0 j) (inC0 j) f.evs)):=by
 obtain⟨e1,e2,e3,e4,e5,e6,e7,e8,e9,e10,e11,e12,e13,e14⟩:=pkg_dims j hj
 obtain⟨hx,_⟩:=in_ok j hj
 obtain⟨r0,r1,c0,c1,hn,hmul⟩:=sizes_bd _ hx
 simp only at r0 r1 c0 c1 hn hmul
 obtain⟨f,g',hf,hg',hev,hgl,hh⟩:=placeS_ok hx
 rw[e1,e2,hg']at hg
 obtain rfl:=Option.some.inj hg
 have hlen:=wordsN_len hl
 have hfl:f.evs.length=(wordsN j l).length:=by rw[hev,hgl,hlen]
 refine⟨f,hf,by rw[hev,hgl];omega,?_,?_,hlen,small_words hj hs,?_,?_,?_⟩
 ·intro y x hy hx hi
  rw[←e3,←e4]at hi ⊢
  exact edge_mod e7 e8 e9 e10 hi
 ·intro r c hr hc
  have m1:hN j-2=mhN (pkgIx j):=by omega
  have m2:wN j-2=mwN (pkgIx j):=by omega
  rw[m1,m2]
  have hi:r*inC0 j+c<inR0 j*inC0 j:=by
   have h1:(r+1)*inC0 j≤inR0 j*inC0 j:=Nat.mul_le_mul_right _ hr
   rw[Nat.add_mul,Nat.one_mul]at h1
   omega
  refine⟨by rw[e12];exact wh_lt (by omega) (by rw[←e11];exact hr),by rw[e14];exact wh_lt (by omega) (by rw[←e13];exact hc),?_⟩
  rw[where_mod (by omega) (by omega),e2]
  unfold bitsOf
  rw[e1,e2,←hev]
  exact place_law (wordsN j l) r0 c0 (place_occ hf) hh hi
 ·intro n hn
  exact fin_low' (Nat.le_of_eq hfl) hn
 ·rw[←hfl];exact place_sur hf hh r0 c0
 ·rw[length_finishS,length_foldS]
theorem shaped_all:∀sh,sh<3→∀j,j<29→(!(sh==1&&rectOf (pkgIx j))&& !(sh==2&& !rectOf (pkgIx j)))=true→shapedB (syN j 0) (syN j 1) sh=true:=by decide+kernel
theorem sy4_words {j:Nat} {l:List Nat} (hj:j<29) (hl:l.length=syN j 4) (hs:Small l) (i:Nat) (hi:i<l.length):(wordsN j l).getD i 0=l.getD i 0:=by
 rw[words_eq hj hs,List.getD_eq_getElem?_getD,List.getD_eq_getElem?_getD,List.getElem?_append_left hi]
theorem EncG.facts {msg:List Nat} {shape base:Nat} {a:EA} {w:World} {v:Value} {gs:List (Nat×Nat)} (hs:shape<3) (h:EncG msg shape a) (hR:RowsM w base v gs (matT a.sw a.sh (modT a.mw a.mh a.dw a.bits))):
 ∃(j:Nat) (l:List Nat) (gv cv:Nat) (T:Nat→Nat→Int) (P:List Int),j<29∧v= .slice (some ⟨gv,0,none⟩) (syN j 0) cv∧gv<w.heap.size∧RowsM w base (.slice (some ⟨gv,0,none⟩) (syN j 0) cv) gs (matT (syN j 1) (syN j 0) T)∧SymT j T (wordsN j l) P∧
  (∀w,Calls Tryz.prog 22 #[syV j] w fun e w'=>∃bb,e= .returned (.tuple #[.slice (some ⟨bb,0,none⟩) (inR0 j*inC0 j) (inR0 j*inC0 j),.int .i64 (inR0 j),.int .i64 (inC0 j)])∧Row w' bb .i64 3 P∧Below w.heap.size w w'∧w.heap.size≤bb)∧
  l.length=syN j 4∧Small l∧RA l 0 [] msg∧l.length≤1304∧shapedB (syN j 0) (syN j 1) shape=true:=by
 obtain⟨j,l,g,hj,rfl,hg,hl,hf,hfl⟩:=h
 obtain⟨e1,e2,e3,e4,e5,e6,e7,e8,e9,e10,e11,e12,e13,e14⟩:=pkg_dims j hj
 have hsm:=small_of_mem hg.sm
 obtain⟨f,f1,f2,f3⟩:=sym_of hj hl hsm hf
 simp only[mkEA]at hR
 rw[e5,e6]at hR
 have h1:1≤syN j 0:=by rw[e12];have:=(in_ok j hj).2.1;have:=reg_ok j hj;exact Nat.mul_pos (by omega) (by omega)
 have hsh:shapedB (syN j 0) (syN j 1) shape=true:=by
  have h1:=List.find?_some hg.lk
  simp only[fitsSym,Bool.and_eq_true]at h1
  exact shaped_all shape hs j hj (by simp only[Bool.and_eq_true];exact h1.1)
 have hv:∃gv cv,v= .slice (some ⟨gv,0,none⟩) (syN j 0) cv∧gv<w.heap.size:=by
  rcases hR.own.2 with⟨hn,hl⟩|⟨g,cap,cur,he,hg,hh,hn,hm,hs,ht⟩
  ·rw[matT_len]at hl;omega
  ·rw[matT_len]at he
   exact⟨g,cap,he,lt_of_blk hh⟩
 obtain⟨gv,cv,rfl,hgv⟩:=hv
 refine⟨j,l,gv,cv,_,_,hj,rfl,hgv,hR,f3,fun w=>?_,hl,hsm,hg.rd,hg.n2,hsh⟩
 refine(placed_calls hj w rfl rfl f f1 f2).mono ?_
 rintro e w' ⟨bb,q1,q2,q3,q4,q5⟩
 exact⟨bb,q1,q2,q4,q5⟩
end
section
open Go.RowKit
theorem fnEnc_big {s:ByteArray} {n:Int} (h:2147483647<s.size) (h2:s.size≤9223372036854775807) (w:World):Calls Tryz.prog 3 #[.string s,.int .i64 n] w (TruePost w):=by
 have g1:(2147483647:Int)<(s.size:Int):=by omega
 go_enter Tryz.func3,Tryz.ntmps3
 go_wp2
 go_ret
 exact⟨rfl,Below.refl _ _⟩
theorem fnEnc_out {s:ByteArray} {n:Int} (h:¬FitsP s n) (h2:s.size≤2147483647) (w:World):Calls Tryz.prog 3 #[.string s,.int .i64 n] w (TruePost w):=by
 have g1:¬(2147483647:Int)<(s.size:Int):=by omega
 have F8:=Lib.hid (fits_no h h2)
 clear h
 go_enter Tryz.func3,Tryz.ntmps3
 go_wp2_with (first|(go_at_call 8;refine(F8.out _).mono ?_;rintro e w1 ⟨rfl,rfl⟩)|(go_at_call 9;refine(works_calls _).mono ?_;rintro e w5 ⟨rfl,hb5⟩;have HB5:=Lib.hid hb5;clear hb5))
 go_ret
 exact⟨rfl,HB5.out⟩
theorem Ints.pre {w:World} {b:Nat} {out l:List Nat} (h:Ints w b out) (hl:l.length≤out.length) (he:∀i,i<l.length→out.getD i 0=l.getD i 0):Ints w b l:=
 ⟨h.1,fun i hi=>by rw[h.2 i (by omega),he i hi]⟩
theorem rd_calls {l msg:List Nat} {s:ByteArray} {w:World} {g cap n:Nat} (hi:Ints w g l) (hn:l.length=n) (hr:RA l 0 [] msg) (hl:l.length≤1304) (h1:1≤msg.length) (hs:strOfNums (nl msg)=s):
 Calls Tryz.prog 14 #[.slice (some ⟨g,0,none⟩) n cap] w fun e w'=>e= .returned (.tuple #[.string s,.bool true])∧Below w.heap.size w w':=by
 subst hn
 have:=read_calls (lcap:=cap) hi hr (by omega) h1
 unfold ReadPost at this
 rwa [hs]at this
theorem wd_calls {l:List Nat} {w:World} {g cap j:Nat} (hi:Ints w g l) (hs:Small l) (hl:l.length=syN j 4) (hj:j<29):
 Calls Tryz.prog 16 #[.agg #[.int .i64 (syN j 0),.int .i64 (syN j 1),.int .i64 (syN j 2),.int .i64 (syN j 3),.int .i64 (syN j 4),.int .i64 (syN j 5),.int .i64 (syN j 6)],.slice (some ⟨g,0,none⟩) (syN j 4) cap] w (IntsPost (wordsN j l) w):=by
 have:=words_calls (dcap:=cap) hi hs hl hj
 rwa [hl]at this
set_option maxRecDepth 100000 in
set_option maxHeartbeats 4000000 in
theorem fnEnc_in {s:ByteArray} {shape:Nat} (h:FitsP s (shape:Int)) (w:World):Calls Tryz.prog 3 #[.string s,.int .i64 shape] w (TruePost w):=by
 have hsz:=h.1
 have g1:¬(2147483647:Int)<(s.size:Int):=by omega
 have hs:shape<3:=by have:=h.2.2.2.2.1;omega
 have HF:=Lib.hid h
 have HC:=Lib.hid (fun w=>implEncode_calls h w)
 have htl:=h.high.h1
 have HSN:=Lib.hid (txt_nums s)
 clear h
 generalize txt s=msg at*
 go_enter Tryz.func3,Tryz.ntmps3
 go_wp2_with (first
  |(go_at_call 8;refine(fits_yes HF.out _).mono ?_;rintro e w1 ⟨rfl,rfl⟩)
  |(go_at_call 10;refine(HC.out _).mono ?_;rintro e w2 ⟨a,ha,v,gs,rfl,hr,hb⟩;obtain⟨j,l,gv,cv,T,P,hj,rfl,hgv,hR,hK,h22,hl,hsm,hrd,hl2,hsh⟩:=ha.facts hs hr;have HB2:=Lib.hid hb;have HR2:=Lib.hid hR;have HK:=Lib.hid hK;have H22:=Lib.hid h22;have HSM:=Lib.hid hsm;have HRD:=Lib.hid hrd;have HSH:=Lib.hid hsh;have HL:=Lib.hid hl;clear ha hr hb hR hK h22 hsm hrd hsh hl)
  |(go_at_call 11;refine(binary_calls HR2.out (by have:=(reg_ok j hj).2.2.2.2.2.2.2.2.2.1;have:=(reg_ok j hj).2.2.2.2.2.2.2.2.2.2.1;omega) (by have:=(reg_ok j hj).2.2.2.2.2.2.2.2.1;omega)).mono ?_;rintro e w3 ⟨rfl,rfl⟩)
  |(go_at_call 12;refine(taken_calls hj rfl rfl rfl rfl HR2.out HK.out hgv H22.out).mono ?_;rintro e w4 ⟨g,rfl,hi,hb4⟩;have HI:=Lib.hid hi;have HB4:=Lib.hid hb4;clear hi hb4;unfold syV)
  |(go_at_call 13;refine((show Calls Tryz.prog 13 _ _ fun en w'=>en= .returned (.bool true)∧Below _ _ w' from HSH.out▸shaped_calls _ _ _ _ _ _ _ _ hs _).mono ?_);rintro e w5 ⟨rfl,hb5⟩;have HB5:=Lib.hid hb5;clear hb5;obtain⟨l0,l1,l2,l3,l4,l5,l6⟩:=cells7 ((HB5.out.block w4.heap.size (by simp)).trans (new_last rfl _));have I5:=Lib.hid ((HI.out.alloc (syO j)).below HB5.out (by have:=HI.out.1;simp;omega));have HB8:=Lib.hid ((HB5.out.block w4.heap.size (by simp)).trans (new_last rfl _));have hle:(syN j 4:Int)≤((wordsN j l).length:Int):=by rw[wordsN_len HL.out];omega)
  |(go_at_call 14;have IL:=Lib.hid (I5.out.pre (by rw[HL.out];omega) (sy4_words hj HL.out HSM.out));refine(rd_calls IL.out HL.out HRD.out hl2 htl HSN.out).mono ?_;rintro e w6 ⟨rfl,hb6⟩;have HB6:=Lib.hid hb6;clear hb6 l0 l1 l2 l3 l4 l5 l6;obtain⟨l0,l1,l2,l3,l4,l5,l6⟩:=cells7 ((HB6.out.block _ (lt_of_blk HB8.out)).trans HB8.out))
  |(go_at_call 16;refine(wd_calls (IL.out.below HB6.out IL.out.1) HSM.out HL.out hj).mono ?_;rintro e w7 ⟨g2,cap2,rfl,hg2,hi2,hb7⟩;have HI2:=Lib.hid hi2;have HB7:=Lib.hid hb7;have I7:=Lib.hid ((I5.out.below HB6.out I5.out.1).below HB7.out (I5.out.below HB6.out I5.out.1).1);clear hi2 hb7)
  |(go_at_call 15;refine(same_calls HI2.out I7.out (by rw[wordsN_len HL.out];have:=(by decide+kernel:∀j,j<29→syN j 4+syN j 5≤4000) j hj;omega)).mono ?_;rintro e w8 ⟨rfl,n8,rfl⟩)
  |(go_at_call 9;refine(works_calls _).mono ?_;rintro e w9 ⟨rfl,hb9⟩;have HB9:=Lib.hid hb9;clear hb9))
 go_ret
 refine⟨rfl,?_⟩
 have B4:=HB2.out.trans (HB4.out.mono HB2.out.size)
 have B5:=(B4.alloc B4.size (syO j)).trans (HB5.out.mono (by have:=B4.size;simp;omega))
 have B6:=B5.trans (HB6.out.mono B5.size)
 have B7:=B6.trans (HB7.out.mono B6.size)
 exact(below_dr B7 n8).trans (HB9.out.mono B7.size)
end
section
open Go.ChangeShapes Go.WideShapes Go.ChangeAt Go.RowKit
theorem fnEnc_any (s:ByteArray) (hm:s.size≤maxLen) (n:Int) (w:World):Calls Tryz.prog 3 #[.string s,.int .i64 n] w (TruePost w):=by
 unfold maxLen at hm
 by_cases h1:2147483647<s.size
 ·exact fnEnc_big h1 (by omega) w
 ·by_cases h2:FitsP s n
  ·obtain⟨sh,rfl⟩:=Int.eq_ofNat_of_zero_le (a:=n) h2.2.2.2.1
   exact fnEnc_in h2 w
  ·exact fnEnc_out h2 (by omega) w
theorem ownKnE:ownKnob Tryz.prog.godebug=none:=by kernel_rfl
def laidLE:List (String×DataW Unit):=[("unicode/utf8.acceptRanges",Rows.laid_unicode_utf8_acceptRanges),("unicode/utf8.first",Rows.laid_unicode_utf8_first)]
set_option maxRecDepth 100000 in
theorem fnEncode_lifted (os:Os) (started:os.Started) (H:Type) (enc:TypeId×Value→H):
 ReturnsInHanded {} Tryz.checked os 3 .any (fun w args=>(Rows.fnEncodeSpec.pre enc Tryz.prog Tryz.f3 [] false w args∧laidMetH Tryz.prog laidLE w)∧sizedMet enc Tryz.prog Tryz.f3 (OpenSpec.ofChange Rows.fnEncodeSpec) false w args)
  (Rows.fnEncodeSpec.post enc Tryz.prog Tryz.f3 false true false false):=by
 refine returnsInHanded_of_change_and (C:=Tryz.checked) (X:=fun w _=>laidMetH Tryz.prog laidLE w) (fun _ _ _ hh h=>h.of_heap hh) ownKnE started (by kernel_rfl) Tryz.func3
  (ChangeSpec.witness_shaped (enc:=enc) (C:=Tryz.checked) (os:=os) (X:=fun w _=>laidMetH Tryz.prog laidLE w) false (World.laidAll Tryz.prog os laidLE) #[.string ⟨#[]⟩,.int .i64 0] 8 (World.laidAll_os _ _ _)
    (World.shaped_of_ZipB (by kernel_rfl) (by kernel_rfl)) (by kernel_rfl) (by kernel_rfl) (by kernel_rfl)
    (by rw[MakeChecks.laidMetH_plain _ _ _ (by kernel_rfl)];exact laidMet_laidAll _ (by kernel_rfl) (by kernel_rfl))) ?_
 intro W base args ds gs before hval0 hW _ _ hL _
 have hval:∀(j:Nat) t v,Tryz.f3.params[j]? =some t→args[j]? =some v→Value.okWide Tryz.prog W .any base t v:=hval0
 have hW':=hW
 obtain⟨p,q,hA0,hV,rfl,_,_⟩:=hW
 have hA:DataW.TrodAll enc Tryz.prog W 0 (fun _=>true) true Tryz.f3.params.toList args.toList ds p:=hA0
 rw[Tryz.params3]at hA hval
 obtain⟨v0,v1,d0,d1,p0,p1,rfl,rfl,rfl,h0,h1⟩:=trodAll_two hA
 obtain⟨rfl,rfl⟩:=trodVars_none hV
 obtain⟨x,rfl,rfl,rfl,hxm⟩:=Go.ChangeMaps.open_string Tryz.underlying9 (hval 0 9 v0 rfl rfl) h0
 obtain⟨y,rfl,rfl,rfl,wy⟩:=open_int Tryz.underlying3 (hval 1 3 v1 rfl rfl) h1
 simp only[List.append_nil]at hW'
 refine(fnEnc_any x hxm y W).mono fun e W' ⟨he,hb⟩=>?_
 subst he
 exact⟨_,rfl,_,_,_,[],[],[],hW',trodAll_mk1 (shut_bool Tryz.underlying4 _),trodAll_mk2 (Go.ChangeMaps.shut_string Tryz.underlying9 hxm) (shut_int Tryz.underlying3 wy),rfl,hb.frame _,fun h=>by cases h⟩
theorem fnEncode_holds:Rows.FnEncodeSaid:=
 OpenClaim.holds_of_wide 3 Tryz.f3 rfl rfl rfl rfl rfl rfl rfl ⟨rfl,rfl,rfl,rfl,rfl⟩ rfl rfl rfl rfl rfl (by kernel_rfl) Tryz.func3 (by kernel_rfl)
  (of_decide_eq_true (by kernel_rfl)) (by unfold Func.isWrapper;first|(rw[if_pos (by decide+kernel)];kernel_rfl)|(rw[if_neg (by decide+kernel)];exact⟨rfl,rfl⟩))
  (fun os started H enc _=>fnEncode_lifted os started H enc)
theorem fnEncode_card:Rows.FnEncodeCardSaid:=
 Claim7.holds_tied_plain_at .later [] [.data,.pinned] true (true,"3c02546d83fb1081b50c595e10acd152b50cfb822275c845e90c4a4ec066cdf2") false
  fnEncode_holds (fun _ h=>by cases h) (by kernel_rfl) (fun _ h=>by cases h) fnEncode_row_tie rfl ⟨rfl,rfl⟩ (by kernel_rfl) rfl
  (fun f fn hf hfn=>by
    obtain rfl:f=3:=Option.some.inj ((show Tryz.prog.funcNamed "zxdatamatrix/laws.FnEncode" =some 3 by kernel_rfl).symm.trans hf)|>.symm
    obtain rfl:fn=Tryz.f3:=(Option.some.inj (Tryz.func3.symm.trans hfn)).symm
    exact⟨by kernel_rfl,fun j t ht=>by
     rw[Tryz.params3]at ht
     have hm:t∈[9,3]:=by simpa using Array.mem_of_getElem? ht
     have hall:([9,3].all fun u=> !Tryz.prog.wantsStandIn u)=true:=by kernel_rfl
     exact(show Tryz.prog.wantsStandIn t=false by simpa using List.all_eq_true.1 hall t hm)⟩)
  (by kernel_rfl)
end
end Go.Proofs.YtcnallabiffemaaGreatDoor
