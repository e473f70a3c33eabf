/- A character's values in C40 and in Text. -/
import Derived.Test.YtcnallabiffemaaGreatDoorZt
set_option linter.unusedVariables false
set_option linter.unusedSimpArgs false
namespace Go.Proofs.YtcnallabiffemaaGreatDoor
open Go.RowKit
def cVals (ch:Nat):List Nat:=if clsOf ch=3 then[3]else if clsOf ch=2 then[ch-44]else if clsOf ch=0 then[ch-51]else[2,ch-96]
def tVals (ch:Nat):List Nat:=if clsOf ch=3 then[3]else if clsOf ch=2 then[ch-44]else if clsOf ch=1 then[ch-83]else[2,ch-64]
theorem cVals_3 {ch:Nat} (e:clsOf ch=3):cVals ch=[3]:=by unfold cVals;rw[if_pos e]
theorem cVals_2 {ch:Nat} (e:clsOf ch=2):cVals ch=[ch-44]:=by unfold cVals;rw[if_neg (by omega),if_pos e]
theorem cVals_0 {ch:Nat} (e:clsOf ch=0):cVals ch=[ch-51]:=by unfold cVals;rw[if_neg (by omega),if_neg (by omega),if_pos e]
theorem cVals_1 {ch:Nat} (e:clsOf ch=1):cVals ch=[2,ch-96]:=by unfold cVals;rw[if_neg (by omega),if_neg (by omega),if_neg (by omega)]
theorem tVals_3 {ch:Nat} (e:clsOf ch=3):tVals ch=[3]:=by unfold tVals;rw[if_pos e]
theorem tVals_2 {ch:Nat} (e:clsOf ch=2):tVals ch=[ch-44]:=by unfold tVals;rw[if_neg (by omega),if_pos e]
theorem tVals_1 {ch:Nat} (e:clsOf ch=1):tVals ch=[ch-83]:=by unfold tVals;rw[if_neg (by omega),if_neg (by omega),if_pos e]
theorem tVals_0 {ch:Nat} (e:clsOf ch=0):tVals ch=[2,ch-64]:=by unfold tVals;rw[if_neg (by omega),if_neg (by omega),if_neg (by omega)]
def CharPost (bb:Nat) (w:World) (v:Value) (xs vals:List Nat) (e:Ending) (w':World):Prop:=
 ∃v',e= .returned (.tuple #[.int .i64 vals.length,v'])∧Own w' bb .u8 5 v' (xs++vals)∧Below bb w w'∧Gr w w' v v'
set_option maxRecDepth 100000 in
set_option maxHeartbeats 8000000 in
theorem cChar_calls {w:World} {bb ch:Nat} {v:Value} {xs:List Nat} (h:Own w bb .u8 5 v xs) (hb:bb≤w.heap.size) (hl:xs.length≤4000) (h4:clsOf ch<4):
 Calls Tryz.prog 124 #[.int .u8 ch,v] w (CharPost bb w v xs (cVals ch)):=by
 have H:=Lib.hid h
 clear h
 rcases cls_cases h4 with⟨e,h1⟩|⟨e,h1,h2⟩|⟨e,h1,h2⟩|⟨e,h1,h2⟩
 ·rw[cVals_3 e]
  clear e h4
  subst h1
  go_enter Tryz.func124,Tryz.ntmps124
  go_wp2_with (first|(refine app49G rfl (.tmp 9) (.tmp 10) rfl bb v xs rfl (H.out.alloc _) w.heap.size 1 1 [3] rfl rfl (by decide) (Bytes.one (c:=3) (n:=3) rfl) (by simp;omega) (by simp;omega) ?_;intro v1 w1 ho1 hg1 hf1;have HO1:=Lib.hid ho1;have HB1:=Lib.hid (((Below.refl bb w).alloc (by omega) _).grown hg1 (by simp;omega) (fun g e=>(H.out.lt g e).1));have hz1:=HB1.out.size;have HG1:=Lib.hid (Gr.app (v':=v1) hg1 hf1);clear ho1 hg1 hf1))
  refine bodyPost_ret (v:= .tuple #[.int .i64 1,v1]) (by simp[results,Tryz.results124,go_sem]) rfl ⟨v1,rfl,HO1.out,HB1.out,HG1.out⟩
 ·rw[cVals_2 e]
  clear e h4
  have a32:((ch:Int)==32)=false:=by simp;omega
  have b32:(32:Int)≤(ch:Int):=by omega
  have d32:¬(ch:Int)<32:=by omega
  have c32:¬(ch:Int)≤32:=by omega
  have a47:((ch:Int)==47)=false:=by simp;omega
  have b47:(47:Int)≤(ch:Int):=by omega
  have d47:¬(ch:Int)<47:=by omega
  have c47:¬(ch:Int)≤47:=by omega
  have b48:(48:Int)≤(ch:Int):=by omega
  have d48:¬(ch:Int)<48:=by omega
  have c57:(ch:Int)≤57:=by omega
  have a64:((ch:Int)==64)=false:=by simp;omega
  have b64:¬(64:Int)≤(ch:Int):=by omega
  have c64:(ch:Int)≤64:=by omega
  have a65:((ch:Int)==65)=false:=by simp;omega
  have b65:¬(65:Int)≤(ch:Int):=by omega
  have c65:(ch:Int)≤65:=by omega
  have a90:((ch:Int)==90)=false:=by simp;omega
  have b90:¬(90:Int)≤(ch:Int):=by omega
  have c90:(ch:Int)≤90:=by omega
  have a91:((ch:Int)==91)=false:=by simp;omega
  have b91:¬(91:Int)≤(ch:Int):=by omega
  have c91:(ch:Int)≤91:=by omega
  have a95:((ch:Int)==95)=false:=by simp;omega
  have b95:¬(95:Int)≤(ch:Int):=by omega
  have c95:(ch:Int)≤95:=by omega
  have a96:((ch:Int)==96)=false:=by simp;omega
  have b96:¬(96:Int)≤(ch:Int):=by omega
  have c96:(ch:Int)≤96:=by omega
  have a97:((ch:Int)==97)=false:=by simp;omega
  have b97:¬(97:Int)≤(ch:Int):=by omega
  have c97:(ch:Int)≤97:=by omega
  have a122:((ch:Int)==122)=false:=by simp;omega
  have b122:¬(122:Int)≤(ch:Int):=by omega
  have c122:(ch:Int)≤122:=by omega
  have a127:((ch:Int)==127)=false:=by simp;omega
  have b127:¬(127:Int)≤(ch:Int):=by omega
  have c127:(ch:Int)≤127:=by omega
  go_enter Tryz.func124,Tryz.ntmps124
  go_wp2_with (first|(refine app49G rfl (.tmp 19) (.tmp 23) rfl bb v xs rfl (H.out.alloc _) w.heap.size 1 1 [ch-44] rfl rfl (by decide) (Bytes.one (c:=(ch:Int)-48+4) (by omega)) (by simp;omega) (by simp;omega) ?_;intro v1 w1 ho1 hg1 hf1;have HO1:=Lib.hid ho1;have HB1:=Lib.hid (((Below.refl bb w).alloc (by omega) _).grown hg1 (by simp;omega) (fun g e=>(H.out.lt g e).1));have hz1:=HB1.out.size;have HG1:=Lib.hid (Gr.app (v':=v1) hg1 hf1);clear ho1 hg1 hf1))
  refine bodyPost_ret (v:= .tuple #[.int .i64 1,v1]) (by simp[results,Tryz.results124,go_sem]) rfl ⟨v1,rfl,HO1.out,HB1.out,HG1.out⟩
 ·rw[cVals_0 e]
  clear e h4
  have a32:((ch:Int)==32)=false:=by simp;omega
  have b32:(32:Int)≤(ch:Int):=by omega
  have d32:¬(ch:Int)<32:=by omega
  have c32:¬(ch:Int)≤32:=by omega
  have a47:((ch:Int)==47)=false:=by simp;omega
  have b47:(47:Int)≤(ch:Int):=by omega
  have d47:¬(ch:Int)<47:=by omega
  have c47:¬(ch:Int)≤47:=by omega
  have a48:((ch:Int)==48)=false:=by simp;omega
  have b48:(48:Int)≤(ch:Int):=by omega
  have d48:¬(ch:Int)<48:=by omega
  have c48:¬(ch:Int)≤48:=by omega
  have a57:((ch:Int)==57)=false:=by simp;omega
  have b57:(57:Int)≤(ch:Int):=by omega
  have d57:¬(ch:Int)<57:=by omega
  have c57:¬(ch:Int)≤57:=by omega
  have a64:((ch:Int)==64)=false:=by simp;omega
  have b64:(64:Int)≤(ch:Int):=by omega
  have d64:¬(ch:Int)<64:=by omega
  have c64:¬(ch:Int)≤64:=by omega
  have b65:(65:Int)≤(ch:Int):=by omega
  have d65:¬(ch:Int)<65:=by omega
  have c90:(ch:Int)≤90:=by omega
  have a91:((ch:Int)==91)=false:=by simp;omega
  have b91:¬(91:Int)≤(ch:Int):=by omega
  have c91:(ch:Int)≤91:=by omega
  have a95:((ch:Int)==95)=false:=by simp;omega
  have b95:¬(95:Int)≤(ch:Int):=by omega
  have c95:(ch:Int)≤95:=by omega
  have a96:((ch:Int)==96)=false:=by simp;omega
  have b96:¬(96:Int)≤(ch:Int):=by omega
  have c96:(ch:Int)≤96:=by omega
  have a97:((ch:Int)==97)=false:=by simp;omega
  have b97:¬(97:Int)≤(ch:Int):=by omega
  have c97:(ch:Int)≤97:=by omega
  have a122:((ch:Int)==122)=false:=by simp;omega
  have b122:¬(122:Int)≤(ch:Int):=by omega
  have c122:(ch:Int)≤122:=by omega
  have a127:((ch:Int)==127)=false:=by simp;omega
  have b127:¬(127:Int)≤(ch:Int):=by omega
  have c127:(ch:Int)≤127:=by omega
  go_enter Tryz.func124,Tryz.ntmps124
  go_wp2_with (first|(refine app49G rfl (.tmp 32) (.tmp 36) rfl bb v xs rfl (H.out.alloc _) w.heap.size 1 1 [ch-51] rfl rfl (by decide) (Bytes.one (c:=(ch:Int)-65+14) (by omega)) (by simp;omega) (by simp;omega) ?_;intro v1 w1 ho1 hg1 hf1;have HO1:=Lib.hid ho1;have HB1:=Lib.hid (((Below.refl bb w).alloc (by omega) _).grown hg1 (by simp;omega) (fun g e=>(H.out.lt g e).1));have hz1:=HB1.out.size;have HG1:=Lib.hid (Gr.app (v':=v1) hg1 hf1);clear ho1 hg1 hf1))
  refine bodyPost_ret (v:= .tuple #[.int .i64 1,v1]) (by simp[results,Tryz.results124,go_sem]) rfl ⟨v1,rfl,HO1.out,HB1.out,HG1.out⟩
 ·rw[cVals_1 e]
  clear e h4
  have a32:((ch:Int)==32)=false:=by simp;omega
  have b32:(32:Int)≤(ch:Int):=by omega
  have d32:¬(ch:Int)<32:=by omega
  have c32:¬(ch:Int)≤32:=by omega
  have a47:((ch:Int)==47)=false:=by simp;omega
  have b47:(47:Int)≤(ch:Int):=by omega
  have d47:¬(ch:Int)<47:=by omega
  have c47:¬(ch:Int)≤47:=by omega
  have a48:((ch:Int)==48)=false:=by simp;omega
  have b48:(48:Int)≤(ch:Int):=by omega
  have d48:¬(ch:Int)<48:=by omega
  have c48:¬(ch:Int)≤48:=by omega
  have a57:((ch:Int)==57)=false:=by simp;omega
  have b57:(57:Int)≤(ch:Int):=by omega
  have d57:¬(ch:Int)<57:=by omega
  have c57:¬(ch:Int)≤57:=by omega
  have a64:((ch:Int)==64)=false:=by simp;omega
  have b64:(64:Int)≤(ch:Int):=by omega
  have d64:¬(ch:Int)<64:=by omega
  have c64:¬(ch:Int)≤64:=by omega
  have a65:((ch:Int)==65)=false:=by simp;omega
  have b65:(65:Int)≤(ch:Int):=by omega
  have d65:¬(ch:Int)<65:=by omega
  have c65:¬(ch:Int)≤65:=by omega
  have a90:((ch:Int)==90)=false:=by simp;omega
  have b90:(90:Int)≤(ch:Int):=by omega
  have d90:¬(ch:Int)<90:=by omega
  have c90:¬(ch:Int)≤90:=by omega
  have a91:((ch:Int)==91)=false:=by simp;omega
  have b91:(91:Int)≤(ch:Int):=by omega
  have d91:¬(ch:Int)<91:=by omega
  have c91:¬(ch:Int)≤91:=by omega
  have a95:((ch:Int)==95)=false:=by simp;omega
  have b95:(95:Int)≤(ch:Int):=by omega
  have d95:¬(ch:Int)<95:=by omega
  have c95:¬(ch:Int)≤95:=by omega
  have a96:((ch:Int)==96)=false:=by simp;omega
  have b96:(96:Int)≤(ch:Int):=by omega
  have d96:¬(ch:Int)<96:=by omega
  have c96:¬(ch:Int)≤96:=by omega
  have b97:(97:Int)≤(ch:Int):=by omega
  have d97:¬(ch:Int)<97:=by omega
  have c122:(ch:Int)≤122:=by omega
  have a127:((ch:Int)==127)=false:=by simp;omega
  have b127:¬(127:Int)≤(ch:Int):=by omega
  have c127:(ch:Int)≤127:=by omega
  go_enter Tryz.func124,Tryz.ntmps124
  go_wp2_with (first|(refine app49G rfl (.tmp 86) (.tmp 87) rfl bb v xs rfl (H.out.alloc _) w.heap.size 1 1 [2] rfl rfl (by decide) (Bytes.one (c:=2) (n:=2) rfl) (by simp;omega) (by simp;omega) ?_;intro v1 w1 ho1 hg1 hf1;have HO1:=Lib.hid ho1;have HB1:=Lib.hid (((Below.refl bb w).alloc (by omega) _).grown hg1 (by simp;omega) (fun g e=>(H.out.lt g e).1));have hz1:=HB1.out.size;have HG1:=Lib.hid (Gr.app (v':=v1) hg1 hf1);clear ho1 hg1 hf1)|(refine app49G rfl (.tmp 89) (.tmp 92) rfl bb v1 (xs++[2]) rfl (HO1.out.alloc _) w1.heap.size 1 1 [ch-96] rfl rfl (by decide) (Bytes.one (c:=(ch:Int)-96) (by omega)) (by simp;omega) (by simp;omega) ?_;intro v2 w2 ho2 hg2 hf2;have HO2:=Lib.hid ho2;have HB2:=Lib.hid ((HB1.out.alloc (by omega) _).grown hg2 (by simp;omega) (fun g e=>(HO1.out.lt g e).1));have hz2:=HB2.out.size;have HG2:=Lib.hid (Gr.app (v':=v2) hg2 hf2);clear ho2 hg2 hf2))
  refine bodyPost_ret (v:= .tuple #[.int .i64 2,v2]) (by simp[results,Tryz.results124,go_sem]) rfl ⟨v2,rfl,(by have h9:=HO2.out;rw[List.append_assoc]at h9;exact h9),HB2.out,HG1.out.trans HG2.out⟩
set_option maxRecDepth 100000 in
set_option maxHeartbeats 8000000 in
theorem tChar_calls {w:World} {bb ch:Nat} {v:Value} {xs:List Nat} (h:Own w bb .u8 5 v xs) (hb:bb≤w.heap.size) (hl:xs.length≤4000) (h4:clsOf ch<4):
 Calls Tryz.prog 125 #[.int .u8 ch,v] w (CharPost bb w v xs (tVals ch)):=by
 have H:=Lib.hid h
 clear h
 rcases cls_cases h4 with⟨e,h1⟩|⟨e,h1,h2⟩|⟨e,h1,h2⟩|⟨e,h1,h2⟩
 ·rw[tVals_3 e]
  clear e h4
  subst h1
  go_enter Tryz.func125,Tryz.ntmps125
  go_wp2_with (first|(refine app49G rfl (.tmp 9) (.tmp 10) rfl bb v xs rfl (H.out.alloc _) w.heap.size 1 1 [3] rfl rfl (by decide) (Bytes.one (c:=3) (n:=3) rfl) (by simp;omega) (by simp;omega) ?_;intro v1 w1 ho1 hg1 hf1;have HO1:=Lib.hid ho1;have HB1:=Lib.hid (((Below.refl bb w).alloc (by omega) _).grown hg1 (by simp;omega) (fun g e=>(H.out.lt g e).1));have hz1:=HB1.out.size;have HG1:=Lib.hid (Gr.app (v':=v1) hg1 hf1);clear ho1 hg1 hf1))
  refine bodyPost_ret (v:= .tuple #[.int .i64 1,v1]) (by simp[results,Tryz.results125,go_sem]) rfl ⟨v1,rfl,HO1.out,HB1.out,HG1.out⟩
 ·rw[tVals_2 e]
  clear e h4
  have a32:((ch:Int)==32)=false:=by simp;omega
  have b32:(32:Int)≤(ch:Int):=by omega
  have d32:¬(ch:Int)<32:=by omega
  have c32:¬(ch:Int)≤32:=by omega
  have a47:((ch:Int)==47)=false:=by simp;omega
  have b47:(47:Int)≤(ch:Int):=by omega
  have d47:¬(ch:Int)<47:=by omega
  have c47:¬(ch:Int)≤47:=by omega
  have b48:(48:Int)≤(ch:Int):=by omega
  have d48:¬(ch:Int)<48:=by omega
  have c57:(ch:Int)≤57:=by omega
  have a64:((ch:Int)==64)=false:=by simp;omega
  have b64:¬(64:Int)≤(ch:Int):=by omega
  have c64:(ch:Int)≤64:=by omega
  have a65:((ch:Int)==65)=false:=by simp;omega
  have b65:¬(65:Int)≤(ch:Int):=by omega
  have c65:(ch:Int)≤65:=by omega
  have a90:((ch:Int)==90)=false:=by simp;omega
  have b90:¬(90:Int)≤(ch:Int):=by omega
  have c90:(ch:Int)≤90:=by omega
  have a91:((ch:Int)==91)=false:=by simp;omega
  have b91:¬(91:Int)≤(ch:Int):=by omega
  have c91:(ch:Int)≤91:=by omega
  have a95:((ch:Int)==95)=false:=by simp;omega
  have b95:¬(95:Int)≤(ch:Int):=by omega
  have c95:(ch:Int)≤95:=by omega
  have a96:((ch:Int)==96)=false:=by simp;omega
  have b96:¬(96:Int)≤(ch:Int):=by omega
  have c96:(ch:Int)≤96:=by omega
  have a97:((ch:Int)==97)=false:=by simp;omega
  have b97:¬(97:Int)≤(ch:Int):=by omega
  have c97:(ch:Int)≤97:=by omega
  have a122:((ch:Int)==122)=false:=by simp;omega
  have b122:¬(122:Int)≤(ch:Int):=by omega
  have c122:(ch:Int)≤122:=by omega
  have a127:((ch:Int)==127)=false:=by simp;omega
  have b127:¬(127:Int)≤(ch:Int):=by omega
  have c127:(ch:Int)≤127:=by omega
  go_enter Tryz.func125,Tryz.ntmps125
  go_wp2_with (first|(refine app49G rfl (.tmp 19) (.tmp 23) rfl bb v xs rfl (H.out.alloc _) w.heap.size 1 1 [ch-44] rfl rfl (by decide) (Bytes.one (c:=(ch:Int)-48+4) (by omega)) (by simp;omega) (by simp;omega) ?_;intro v1 w1 ho1 hg1 hf1;have HO1:=Lib.hid ho1;have HB1:=Lib.hid (((Below.refl bb w).alloc (by omega) _).grown hg1 (by simp;omega) (fun g e=>(H.out.lt g e).1));have hz1:=HB1.out.size;have HG1:=Lib.hid (Gr.app (v':=v1) hg1 hf1);clear ho1 hg1 hf1))
  refine bodyPost_ret (v:= .tuple #[.int .i64 1,v1]) (by simp[results,Tryz.results125,go_sem]) rfl ⟨v1,rfl,HO1.out,HB1.out,HG1.out⟩
 ·rw[tVals_0 e]
  clear e h4
  have a32:((ch:Int)==32)=false:=by simp;omega
  have b32:(32:Int)≤(ch:Int):=by omega
  have d32:¬(ch:Int)<32:=by omega
  have c32:¬(ch:Int)≤32:=by omega
  have a47:((ch:Int)==47)=false:=by simp;omega
  have b47:(47:Int)≤(ch:Int):=by omega
  have d47:¬(ch:Int)<47:=by omega
  have c47:¬(ch:Int)≤47:=by omega
  have a48:((ch:Int)==48)=false:=by simp;omega
  have b48:(48:Int)≤(ch:Int):=by omega
  have d48:¬(ch:Int)<48:=by omega
  have c48:¬(ch:Int)≤48:=by omega
  have a57:((ch:Int)==57)=false:=by simp;omega
  have b57:(57:Int)≤(ch:Int):=by omega
  have d57:¬(ch:Int)<57:=by omega
  have c57:¬(ch:Int)≤57:=by omega
  have a64:((ch:Int)==64)=false:=by simp;omega
  have b64:(64:Int)≤(ch:Int):=by omega
  have d64:¬(ch:Int)<64:=by omega
  have c64:¬(ch:Int)≤64:=by omega
  have b65:(65:Int)≤(ch:Int):=by omega
  have d65:¬(ch:Int)<65:=by omega
  have c90:(ch:Int)≤90:=by omega
  have a91:((ch:Int)==91)=false:=by simp;omega
  have b91:¬(91:Int)≤(ch:Int):=by omega
  have c91:(ch:Int)≤91:=by omega
  have a95:((ch:Int)==95)=false:=by simp;omega
  have b95:¬(95:Int)≤(ch:Int):=by omega
  have c95:(ch:Int)≤95:=by omega
  have a96:((ch:Int)==96)=false:=by simp;omega
  have b96:¬(96:Int)≤(ch:Int):=by omega
  have c96:(ch:Int)≤96:=by omega
  have a97:((ch:Int)==97)=false:=by simp;omega
  have b97:¬(97:Int)≤(ch:Int):=by omega
  have c97:(ch:Int)≤97:=by omega
  have a122:((ch:Int)==122)=false:=by simp;omega
  have b122:¬(122:Int)≤(ch:Int):=by omega
  have c122:(ch:Int)≤122:=by omega
  have a127:((ch:Int)==127)=false:=by simp;omega
  have b127:¬(127:Int)≤(ch:Int):=by omega
  have c127:(ch:Int)≤127:=by omega
  go_enter Tryz.func125,Tryz.ntmps125
  go_wp2_with (first|(refine app49G rfl (.tmp 99) (.tmp 100) rfl bb v xs rfl (H.out.alloc _) w.heap.size 1 1 [2] rfl rfl (by decide) (Bytes.one (c:=2) (n:=2) rfl) (by simp;omega) (by simp;omega) ?_;intro v1 w1 ho1 hg1 hf1;have HO1:=Lib.hid ho1;have HB1:=Lib.hid (((Below.refl bb w).alloc (by omega) _).grown hg1 (by simp;omega) (fun g e=>(H.out.lt g e).1));have hz1:=HB1.out.size;have HG1:=Lib.hid (Gr.app (v':=v1) hg1 hf1);clear ho1 hg1 hf1)|(refine app49G rfl (.tmp 102) (.tmp 106) rfl bb v1 (xs++[2]) rfl (HO1.out.alloc _) w1.heap.size 1 1 [ch-64] rfl rfl (by decide) (Bytes.one (c:=(ch:Int)-65+1) (by omega)) (by simp;omega) (by simp;omega) ?_;intro v2 w2 ho2 hg2 hf2;have HO2:=Lib.hid ho2;have HB2:=Lib.hid ((HB1.out.alloc (by omega) _).grown hg2 (by simp;omega) (fun g e=>(HO1.out.lt g e).1));have hz2:=HB2.out.size;have HG2:=Lib.hid (Gr.app (v':=v2) hg2 hf2);clear ho2 hg2 hf2))
  refine bodyPost_ret (v:= .tuple #[.int .i64 2,v2]) (by simp[results,Tryz.results125,go_sem]) rfl ⟨v2,rfl,(by have h9:=HO2.out;rw[List.append_assoc]at h9;exact h9),HB2.out,HG1.out.trans HG2.out⟩
 ·rw[tVals_1 e]
  clear e h4
  have a32:((ch:Int)==32)=false:=by simp;omega
  have b32:(32:Int)≤(ch:Int):=by omega
  have d32:¬(ch:Int)<32:=by omega
  have c32:¬(ch:Int)≤32:=by omega
  have a47:((ch:Int)==47)=false:=by simp;omega
  have b47:(47:Int)≤(ch:Int):=by omega
  have d47:¬(ch:Int)<47:=by omega
  have c47:¬(ch:Int)≤47:=by omega
  have a48:((ch:Int)==48)=false:=by simp;omega
  have b48:(48:Int)≤(ch:Int):=by omega
  have d48:¬(ch:Int)<48:=by omega
  have c48:¬(ch:Int)≤48:=by omega
  have a57:((ch:Int)==57)=false:=by simp;omega
  have b57:(57:Int)≤(ch:Int):=by omega
  have d57:¬(ch:Int)<57:=by omega
  have c57:¬(ch:Int)≤57:=by omega
  have a64:((ch:Int)==64)=false:=by simp;omega
  have b64:(64:Int)≤(ch:Int):=by omega
  have d64:¬(ch:Int)<64:=by omega
  have c64:¬(ch:Int)≤64:=by omega
  have a65:((ch:Int)==65)=false:=by simp;omega
  have b65:(65:Int)≤(ch:Int):=by omega
  have d65:¬(ch:Int)<65:=by omega
  have c65:¬(ch:Int)≤65:=by omega
  have a90:((ch:Int)==90)=false:=by simp;omega
  have b90:(90:Int)≤(ch:Int):=by omega
  have d90:¬(ch:Int)<90:=by omega
  have c90:¬(ch:Int)≤90:=by omega
  have a91:((ch:Int)==91)=false:=by simp;omega
  have b91:(91:Int)≤(ch:Int):=by omega
  have d91:¬(ch:Int)<91:=by omega
  have c91:¬(ch:Int)≤91:=by omega
  have a95:((ch:Int)==95)=false:=by simp;omega
  have b95:(95:Int)≤(ch:Int):=by omega
  have d95:¬(ch:Int)<95:=by omega
  have c95:¬(ch:Int)≤95:=by omega
  have a96:((ch:Int)==96)=false:=by simp;omega
  have b96:(96:Int)≤(ch:Int):=by omega
  have d96:¬(ch:Int)<96:=by omega
  have c96:¬(ch:Int)≤96:=by omega
  have b97:(97:Int)≤(ch:Int):=by omega
  have d97:¬(ch:Int)<97:=by omega
  have c122:(ch:Int)≤122:=by omega
  have a127:((ch:Int)==127)=false:=by simp;omega
  have b127:¬(127:Int)≤(ch:Int):=by omega
  have c127:(ch:Int)≤127:=by omega
  go_enter Tryz.func125,Tryz.ntmps125
  go_wp2_with (first|(refine app49G rfl (.tmp 32) (.tmp 36) rfl bb v xs rfl (H.out.alloc _) w.heap.size 1 1 [ch-83] rfl rfl (by decide) (Bytes.one (c:=(ch:Int)-97+14) (by omega)) (by simp;omega) (by simp;omega) ?_;intro v1 w1 ho1 hg1 hf1;have HO1:=Lib.hid ho1;have HB1:=Lib.hid (((Below.refl bb w).alloc (by omega) _).grown hg1 (by simp;omega) (fun g e=>(H.out.lt g e).1));have hz1:=HB1.out.size;have HG1:=Lib.hid (Gr.app (v':=v1) hg1 hf1);clear ho1 hg1 hf1))
  refine bodyPost_ret (v:= .tuple #[.int .i64 1,v1]) (by simp[results,Tryz.results125,go_sem]) rfl ⟨v1,rfl,HO1.out,HB1.out,HG1.out⟩
end Go.Proofs.YtcnallabiffemaaGreatDoor
