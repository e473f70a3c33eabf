/- A round of the lookahead: the counts. -/
import Derived.Test.YtcnallabiffemaaGreatDoorZs
import Derived.Deep.CutRange
set_option linter.unusedVariables false
set_option linter.unusedSimpArgs false
namespace Go.Proofs.YtcnallabiffemaaGreatDoor
open Go.RowKit
noncomputable def lkCond:Code:=tailSeq 1 lkDec
theorem hop_add {x y r:Nat} (h:Ieee.double.add x y=some r) (t:TypeId) (w:World):(binOp .add t (.float .f64 x) (.float .f64 y)).run Tryz.prog w= .ok (.float .f64 r) w:=
 run_float_arith w .add t .f64 x y r h
set_option maxRecDepth 100000 in
set_option maxHeartbeats 16000000 in
theorem step_U {w0 w:World} {fb mb mcap p n:Nat} {msg:List Nat} {f:F6} {m:Mo} {Q:Exit→Act→World→Prop} {T:Nat→Value} {c2 c6:Value} (HM:LkMem w0 w fb mb f.list msg) (hpn:p+n<msg.length) (hl:msg.length≤1000)
 (hc:clsOf (msg.getD (p+n) 0)=0) (HR:Rel m n f)
 (hdec:∀T' w',LkMem w0 w' fb mb (f.step 0).list msg→T' 211= .bool (decide ((n:Int)+1≥4))→Code.wp Tryz.prog lkCond Q (fr (.slice (some ⟨mb,0,none⟩) msg.length mcap) (.int .i64 p) c2 c6 (.slice (some ⟨fb,0,none⟩) 6 6) (.int .i64 ((n:Int)+1)) T') w'):
 Code.wp Tryz.prog lkBody Q (fr (.slice (some ⟨mb,0,none⟩) msg.length mcap) (.int .i64 p) c2 c6 (.slice (some ⟨fb,0,none⟩) 6 6) (.int .i64 n) T) w:=by
 have hst:=store_float
 have HD:=Lib.hid hdec
 have HF0:=HM.flo
 have x0:=HM.byt.2 (p+n) hpn
 generalize msg.getD (p+n) 0=ch at*
 have h178:=fun w=>isDigF_calls (n:=ch) (by have:=cls_cases (n:=ch) (by omega);unfold isDig;simp;omega) w
 have h177:=fun w=>ext_calls hc (by decide) w
 have h182:=fun w=>nC40_calls hc (by decide) w
 have h183:=fun w=>nTxt_calls hc (by decide) w
 have h184:=fun w=>x12_calls hc (by decide) w
 have h185:=fun w=>nEdi_calls hc (by decide) w
 have h186:=fun w=>b256_calls hc (by decide) w
 obtain⟨-,⟨a1,a2⟩,⟨c1,c2'⟩,⟨t1,t2⟩,⟨x1,x2⟩,⟨e1,e2⟩,b1⟩:=HR.step (by omega) 0
 have hfin:(f.step 0).list=[fadd (ceilBits f.a) wOne,fadd f.c w23,fadd f.t w43,fadd f.x w23,fadd f.e w34,fadd f.b wOne]:=rfl
 obtain⟨fa,fc,ft,fx,fe,fb'⟩:=f
 simp only at a1 a2 c1 c2' t1 t2 x1 x2 e1 e2 b1 hfin
 have HFIN:=Lib.hid hfin
 clear hfin hdec
 have y0:=HF0.cell (i:=0) (show 0<6 by decide)
 have y1:=HF0.cell (i:=1) (show 1<6 by decide)
 have y2:=HF0.cell (i:=2) (show 2<6 by decide)
 have y3:=HF0.cell (i:=3) (show 3<6 by decide)
 have y4:=HF0.cell (i:=4) (show 4<6 by decide)
 have y5:=HF0.cell (i:=5) (show 5<6 by decide)
 simp only[F6.list,List.getD_cons_zero,List.getD_cons_succ]at y0 y1 y2 y3 y4 y5
 have f0:=HF0.free 0
 have f1:=HF0.free 1
 have f2:=HF0.free 2
 have f3:=HF0.free 3
 have f4:=HF0.free 4
 have f5:=HF0.free 5
 have g0:=fun t w=>hop_add (x:=ceilBits fa) (y:=4607182418800017408) (show _=some (fadd (ceilBits fa) wOne)from a2) t w
 obtain⟨sg,mg,pl,hdc⟩:∃s m p,FloatKind.f64.decode fa= .number s m p:=by
  obtain⟨A,t,c,x,E,B,hA,hA1,-⟩:=HR
  exact(ceil_FZ hA (by omega)).1
 have g1:=fun t w=>hop_add (x:=fc) (y:=4604180019048437077) (show _=some (fadd fc w23)from c2') t w
 have g2:=fun t w=>hop_add (x:=ft) (y:=4608683618675807573) (show _=some (fadd ft w43)from t1) t w
 have g3:=fun t w=>hop_add (x:=fx) (y:=4604180019048437077) (show _=some (fadd fx w23)from x2) t w
 have g4:=fun t w=>hop_add (x:=fe) (y:=4604930618986332160) (show _=some (fadd fe w34)from e2) t w
 have g5:=fun t w=>hop_add (x:=fb') (y:=4607182418800017408) (show _=some (fadd fb' wOne)from b1) t w
 have HN:=Lib.hid (((((((HM.set 0 (ceilBits fa)).set 0 (fadd (ceilBits fa) wOne)).set 1 (fadd fc w23)).set 2 (fadd ft w43)).set 3 (fadd fx w23)).set 4 (fadd fe w34)).set 5 (fadd fb' wOne))
 clear a1 a2 c1 c2' t1 t2 x1 x2 e1 e2 b1 HR HF0 hc
 have hpi:(p:Int)+(n:Int)<(msg.length:Int):=by omega
 have hpe:((p:Int)+(n:Int)==(msg.length:Int))=false:=by simp;omega
 have hn1:n≤1000:=by omega
 clear HM
 generalize fadd (ceilBits fa) wOne=v0 at*
 generalize fadd fc w23=v1 at*
 generalize fadd ft w43=v2 at*
 generalize fadd fx w23=v3 at*
 generalize fadd fe w34=v4 at*
 generalize fadd fb' wOne=v5 at*
 unfold fr
 conv=>arg 2;whnf
 go_upto_if 211 with(first|(go_at_call 178;refine(h178 _).mono ?_;rintro e w2 ⟨rfl,rfl⟩)|(go_at_call 177;refine(h177 _).mono ?_;rintro e w2 ⟨rfl,rfl⟩)|(go_at_call 181;refine(ceil_calls hdc _).mono ?_;rintro e w2 ⟨rfl,rfl⟩)|(go_at_call 182;refine(h182 _).mono ?_;rintro e w2 ⟨rfl,rfl⟩)|(go_at_call 183;refine(h183 _).mono ?_;rintro e w2 ⟨rfl,rfl⟩)|(go_at_call 184;refine(h184 _).mono ?_;rintro e w2 ⟨rfl,rfl⟩)|(go_at_call 185;refine(h185 _).mono ?_;rintro e w2 ⟨rfl,rfl⟩)|(go_at_call 186;refine(h186 _).mono ?_;rintro e w2 ⟨rfl,rfl⟩))
 generalize hA:(Act.mk _ _:Act)=A
 have q211:A.tmps.getD 211 undef= .bool (decide ((n:Int)+1≥4)):=by rw[←hA];rfl
 obtain⟨T',rfl⟩:=fr_of (a:=A) (c0:= .slice (some ⟨mb,0,none⟩) msg.length mcap) (c1:= .int .i64 p) (c2:=c2) (c6:=c6) (c7:= .slice (some ⟨fb,0,none⟩) 6 6) (c8:= .int .i64 ((n:Int)+1))
  (by rw[←hA];rfl) (by rw[←hA]) (by rw[←hA];rfl) (by rw[←hA];rfl) (by rw[←hA];rfl) (by rw[←hA];rfl) (by rw[←hA];rfl) (by rw[←hA];rfl)
 clear hA
 exact HD.out T' _ (by rw[HFIN.out];exact HN.out) q211
set_option maxRecDepth 100000 in
set_option maxHeartbeats 16000000 in
theorem step_L {w0 w:World} {fb mb mcap p n:Nat} {msg:List Nat} {f:F6} {m:Mo} {Q:Exit→Act→World→Prop} {T:Nat→Value} {c2 c6:Value} (HM:LkMem w0 w fb mb f.list msg) (hpn:p+n<msg.length) (hl:msg.length≤1000)
 (hc:clsOf (msg.getD (p+n) 0)=1) (HR:Rel m n f)
 (hdec:∀T' w',LkMem w0 w' fb mb (f.step 1).list msg→T' 211= .bool (decide ((n:Int)+1≥4))→Code.wp Tryz.prog lkCond Q (fr (.slice (some ⟨mb,0,none⟩) msg.length mcap) (.int .i64 p) c2 c6 (.slice (some ⟨fb,0,none⟩) 6 6) (.int .i64 ((n:Int)+1)) T') w'):
 Code.wp Tryz.prog lkBody Q (fr (.slice (some ⟨mb,0,none⟩) msg.length mcap) (.int .i64 p) c2 c6 (.slice (some ⟨fb,0,none⟩) 6 6) (.int .i64 n) T) w:=by
 have hst:=store_float
 have HD:=Lib.hid hdec
 have HF0:=HM.flo
 have x0:=HM.byt.2 (p+n) hpn
 generalize msg.getD (p+n) 0=ch at*
 have h178:=fun w=>isDigF_calls (n:=ch) (by have:=cls_cases (n:=ch) (by omega);unfold isDig;simp;omega) w
 have h177:=fun w=>ext_calls hc (by decide) w
 have h182:=fun w=>nC40_calls hc (by decide) w
 have h183:=fun w=>nTxt_calls hc (by decide) w
 have h184:=fun w=>x12_calls hc (by decide) w
 have h185:=fun w=>nEdi_calls hc (by decide) w
 have h186:=fun w=>b256_calls hc (by decide) w
 obtain⟨-,⟨a1,a2⟩,⟨c1,c2'⟩,⟨t1,t2⟩,⟨x1,x2⟩,⟨e1,e2⟩,b1⟩:=HR.step (by omega) 1
 have hfin:(f.step 1).list=[fadd (ceilBits f.a) wOne,fadd f.c w43,fadd f.t w23,fadd f.x w103,fadd f.e w134,fadd f.b wOne]:=rfl
 obtain⟨fa,fc,ft,fx,fe,fb'⟩:=f
 simp only at a1 a2 c1 c2' t1 t2 x1 x2 e1 e2 b1 hfin
 have HFIN:=Lib.hid hfin
 clear hfin hdec
 have y0:=HF0.cell (i:=0) (show 0<6 by decide)
 have y1:=HF0.cell (i:=1) (show 1<6 by decide)
 have y2:=HF0.cell (i:=2) (show 2<6 by decide)
 have y3:=HF0.cell (i:=3) (show 3<6 by decide)
 have y4:=HF0.cell (i:=4) (show 4<6 by decide)
 have y5:=HF0.cell (i:=5) (show 5<6 by decide)
 simp only[F6.list,List.getD_cons_zero,List.getD_cons_succ]at y0 y1 y2 y3 y4 y5
 have f0:=HF0.free 0
 have f1:=HF0.free 1
 have f2:=HF0.free 2
 have f3:=HF0.free 3
 have f4:=HF0.free 4
 have f5:=HF0.free 5
 have g0:=fun t w=>hop_add (x:=ceilBits fa) (y:=4607182418800017408) (show _=some (fadd (ceilBits fa) wOne)from a2) t w
 obtain⟨sg,mg,pl,hdc⟩:∃s m p,FloatKind.f64.decode fa= .number s m p:=by
  obtain⟨A,t,c,x,E,B,hA,hA1,-⟩:=HR
  exact(ceil_FZ hA (by omega)).1
 have g1:=fun t w=>hop_add (x:=fc) (y:=4608683618675807573) (show _=some (fadd fc w43)from c1) t w
 have g2:=fun t w=>hop_add (x:=ft) (y:=4604180019048437077) (show _=some (fadd ft w23)from t2) t w
 have g3:=fun t w=>hop_add (x:=fx) (y:=4614688418178968235) (show _=some (fadd fx w103)from x1) t w
 have g4:=fun t w=>hop_add (x:=fe) (y:=4614500768194494464) (show _=some (fadd fe w134)from e1) t w
 have g5:=fun t w=>hop_add (x:=fb') (y:=4607182418800017408) (show _=some (fadd fb' wOne)from b1) t w
 have HN:=Lib.hid (((((((HM.set 0 (ceilBits fa)).set 0 (fadd (ceilBits fa) wOne)).set 1 (fadd fc w43)).set 2 (fadd ft w23)).set 3 (fadd fx w103)).set 4 (fadd fe w134)).set 5 (fadd fb' wOne))
 clear a1 a2 c1 c2' t1 t2 x1 x2 e1 e2 b1 HR HF0 hc
 have hpi:(p:Int)+(n:Int)<(msg.length:Int):=by omega
 have hpe:((p:Int)+(n:Int)==(msg.length:Int))=false:=by simp;omega
 have hn1:n≤1000:=by omega
 clear HM
 generalize fadd (ceilBits fa) wOne=v0 at*
 generalize fadd fc w43=v1 at*
 generalize fadd ft w23=v2 at*
 generalize fadd fx w103=v3 at*
 generalize fadd fe w134=v4 at*
 generalize fadd fb' wOne=v5 at*
 unfold fr
 conv=>arg 2;whnf
 go_upto_if 211 with(first|(go_at_call 178;refine(h178 _).mono ?_;rintro e w2 ⟨rfl,rfl⟩)|(go_at_call 177;refine(h177 _).mono ?_;rintro e w2 ⟨rfl,rfl⟩)|(go_at_call 181;refine(ceil_calls hdc _).mono ?_;rintro e w2 ⟨rfl,rfl⟩)|(go_at_call 182;refine(h182 _).mono ?_;rintro e w2 ⟨rfl,rfl⟩)|(go_at_call 183;refine(h183 _).mono ?_;rintro e w2 ⟨rfl,rfl⟩)|(go_at_call 184;refine(h184 _).mono ?_;rintro e w2 ⟨rfl,rfl⟩)|(go_at_call 185;refine(h185 _).mono ?_;rintro e w2 ⟨rfl,rfl⟩)|(go_at_call 186;refine(h186 _).mono ?_;rintro e w2 ⟨rfl,rfl⟩))
 generalize hA:(Act.mk _ _:Act)=A
 have q211:A.tmps.getD 211 undef= .bool (decide ((n:Int)+1≥4)):=by rw[←hA];rfl
 obtain⟨T',rfl⟩:=fr_of (a:=A) (c0:= .slice (some ⟨mb,0,none⟩) msg.length mcap) (c1:= .int .i64 p) (c2:=c2) (c6:=c6) (c7:= .slice (some ⟨fb,0,none⟩) 6 6) (c8:= .int .i64 ((n:Int)+1))
  (by rw[←hA];rfl) (by rw[←hA]) (by rw[←hA];rfl) (by rw[←hA];rfl) (by rw[←hA];rfl) (by rw[←hA];rfl) (by rw[←hA];rfl) (by rw[←hA];rfl)
 clear hA
 exact HD.out T' _ (by rw[HFIN.out];exact HN.out) q211
set_option maxRecDepth 100000 in
set_option maxHeartbeats 16000000 in
theorem step_D {w0 w:World} {fb mb mcap p n:Nat} {msg:List Nat} {f:F6} {m:Mo} {Q:Exit→Act→World→Prop} {T:Nat→Value} {c2 c6:Value} (HM:LkMem w0 w fb mb f.list msg) (hpn:p+n<msg.length) (hl:msg.length≤1000)
 (hc:clsOf (msg.getD (p+n) 0)=2) (HR:Rel m n f)
 (hdec:∀T' w',LkMem w0 w' fb mb (f.step 2).list msg→T' 211= .bool (decide ((n:Int)+1≥4))→Code.wp Tryz.prog lkCond Q (fr (.slice (some ⟨mb,0,none⟩) msg.length mcap) (.int .i64 p) c2 c6 (.slice (some ⟨fb,0,none⟩) 6 6) (.int .i64 ((n:Int)+1)) T') w'):
 Code.wp Tryz.prog lkBody Q (fr (.slice (some ⟨mb,0,none⟩) msg.length mcap) (.int .i64 p) c2 c6 (.slice (some ⟨fb,0,none⟩) 6 6) (.int .i64 n) T) w:=by
 have hst:=store_float
 have HD:=Lib.hid hdec
 have HF0:=HM.flo
 have x0:=HM.byt.2 (p+n) hpn
 generalize msg.getD (p+n) 0=ch at*
 have h178:=fun w=>isDigT_calls (n:=ch) (by have:=cls_cases (n:=ch) (by omega);unfold isDig;simp;omega) w
 have h177:=fun w=>ext_calls hc (by decide) w
 have h182:=fun w=>nC40_calls hc (by decide) w
 have h183:=fun w=>nTxt_calls hc (by decide) w
 have h184:=fun w=>x12_calls hc (by decide) w
 have h185:=fun w=>nEdi_calls hc (by decide) w
 have h186:=fun w=>b256_calls hc (by decide) w
 obtain⟨-,⟨a1,a2⟩,⟨c1,c2'⟩,⟨t1,t2⟩,⟨x1,x2⟩,⟨e1,e2⟩,b1⟩:=HR.step (by omega) 2
 have hfin:(f.step 2).list=[fadd f.a wHalf,fadd f.c w23,fadd f.t w23,fadd f.x w23,fadd f.e w34,fadd f.b wOne]:=rfl
 obtain⟨fa,fc,ft,fx,fe,fb'⟩:=f
 simp only at a1 a2 c1 c2' t1 t2 x1 x2 e1 e2 b1 hfin
 have HFIN:=Lib.hid hfin
 clear hfin hdec
 have y0:=HF0.cell (i:=0) (show 0<6 by decide)
 have y1:=HF0.cell (i:=1) (show 1<6 by decide)
 have y2:=HF0.cell (i:=2) (show 2<6 by decide)
 have y3:=HF0.cell (i:=3) (show 3<6 by decide)
 have y4:=HF0.cell (i:=4) (show 4<6 by decide)
 have y5:=HF0.cell (i:=5) (show 5<6 by decide)
 simp only[F6.list,List.getD_cons_zero,List.getD_cons_succ]at y0 y1 y2 y3 y4 y5
 have f0:=HF0.free 0
 have f1:=HF0.free 1
 have f2:=HF0.free 2
 have f3:=HF0.free 3
 have f4:=HF0.free 4
 have f5:=HF0.free 5
 have g0:=fun t w=>hop_add (x:=fa) (y:=4602678819172646912) (show _=some (fadd fa wHalf)from a1) t w
 have g1:=fun t w=>hop_add (x:=fc) (y:=4604180019048437077) (show _=some (fadd fc w23)from c2') t w
 have g2:=fun t w=>hop_add (x:=ft) (y:=4604180019048437077) (show _=some (fadd ft w23)from t2) t w
 have g3:=fun t w=>hop_add (x:=fx) (y:=4604180019048437077) (show _=some (fadd fx w23)from x2) t w
 have g4:=fun t w=>hop_add (x:=fe) (y:=4604930618986332160) (show _=some (fadd fe w34)from e2) t w
 have g5:=fun t w=>hop_add (x:=fb') (y:=4607182418800017408) (show _=some (fadd fb' wOne)from b1) t w
 have HN:=Lib.hid ((((((HM.set 0 (fadd fa wHalf)).set 1 (fadd fc w23)).set 2 (fadd ft w23)).set 3 (fadd fx w23)).set 4 (fadd fe w34)).set 5 (fadd fb' wOne))
 clear a1 a2 c1 c2' t1 t2 x1 x2 e1 e2 b1 HR HF0 hc
 have hpi:(p:Int)+(n:Int)<(msg.length:Int):=by omega
 have hpe:((p:Int)+(n:Int)==(msg.length:Int))=false:=by simp;omega
 have hn1:n≤1000:=by omega
 clear HM
 generalize fadd fa wHalf=v0 at*
 generalize fadd fc w23=v1 at*
 generalize fadd ft w23=v2 at*
 generalize fadd fx w23=v3 at*
 generalize fadd fe w34=v4 at*
 generalize fadd fb' wOne=v5 at*
 unfold fr
 conv=>arg 2;whnf
 go_upto_if 211 with(first|(go_at_call 178;refine(h178 _).mono ?_;rintro e w2 ⟨rfl,rfl⟩)|(go_at_call 177;refine(h177 _).mono ?_;rintro e w2 ⟨rfl,rfl⟩)|(go_at_call 182;refine(h182 _).mono ?_;rintro e w2 ⟨rfl,rfl⟩)|(go_at_call 183;refine(h183 _).mono ?_;rintro e w2 ⟨rfl,rfl⟩)|(go_at_call 184;refine(h184 _).mono ?_;rintro e w2 ⟨rfl,rfl⟩)|(go_at_call 185;refine(h185 _).mono ?_;rintro e w2 ⟨rfl,rfl⟩)|(go_at_call 186;refine(h186 _).mono ?_;rintro e w2 ⟨rfl,rfl⟩))
 generalize hA:(Act.mk _ _:Act)=A
 have q211:A.tmps.getD 211 undef= .bool (decide ((n:Int)+1≥4)):=by rw[←hA];rfl
 obtain⟨T',rfl⟩:=fr_of (a:=A) (c0:= .slice (some ⟨mb,0,none⟩) msg.length mcap) (c1:= .int .i64 p) (c2:=c2) (c6:=c6) (c7:= .slice (some ⟨fb,0,none⟩) 6 6) (c8:= .int .i64 ((n:Int)+1))
  (by rw[←hA];rfl) (by rw[←hA]) (by rw[←hA];rfl) (by rw[←hA];rfl) (by rw[←hA];rfl) (by rw[←hA];rfl) (by rw[←hA];rfl) (by rw[←hA];rfl)
 clear hA
 exact HD.out T' _ (by rw[HFIN.out];exact HN.out) q211
set_option maxRecDepth 100000 in
set_option maxHeartbeats 16000000 in
theorem step_B {w0 w:World} {fb mb mcap p n:Nat} {msg:List Nat} {f:F6} {m:Mo} {Q:Exit→Act→World→Prop} {T:Nat→Value} {c2 c6:Value} (HM:LkMem w0 w fb mb f.list msg) (hpn:p+n<msg.length) (hl:msg.length≤1000)
 (hc:clsOf (msg.getD (p+n) 0)=3) (HR:Rel m n f)
 (hdec:∀T' w',LkMem w0 w' fb mb (f.step 3).list msg→T' 211= .bool (decide ((n:Int)+1≥4))→Code.wp Tryz.prog lkCond Q (fr (.slice (some ⟨mb,0,none⟩) msg.length mcap) (.int .i64 p) c2 c6 (.slice (some ⟨fb,0,none⟩) 6 6) (.int .i64 ((n:Int)+1)) T') w'):
 Code.wp Tryz.prog lkBody Q (fr (.slice (some ⟨mb,0,none⟩) msg.length mcap) (.int .i64 p) c2 c6 (.slice (some ⟨fb,0,none⟩) 6 6) (.int .i64 n) T) w:=by
 have hst:=store_float
 have HD:=Lib.hid hdec
 have HF0:=HM.flo
 have x0:=HM.byt.2 (p+n) hpn
 generalize msg.getD (p+n) 0=ch at*
 have h178:=fun w=>isDigF_calls (n:=ch) (by have:=cls_cases (n:=ch) (by omega);unfold isDig;simp;omega) w
 have h177:=fun w=>ext_calls hc (by decide) w
 have h182:=fun w=>nC40_calls hc (by decide) w
 have h183:=fun w=>nTxt_calls hc (by decide) w
 have h184:=fun w=>x12_calls hc (by decide) w
 have h185:=fun w=>nEdi_calls hc (by decide) w
 have h186:=fun w=>b256_calls hc (by decide) w
 obtain⟨-,⟨a1,a2⟩,⟨c1,c2'⟩,⟨t1,t2⟩,⟨x1,x2⟩,⟨e1,e2⟩,b1⟩:=HR.step (by omega) 3
 have hfin:(f.step 3).list=[fadd (ceilBits f.a) wOne,fadd f.c w23,fadd f.t w23,fadd f.x w23,fadd f.e w34,fadd f.b wOne]:=rfl
 obtain⟨fa,fc,ft,fx,fe,fb'⟩:=f
 simp only at a1 a2 c1 c2' t1 t2 x1 x2 e1 e2 b1 hfin
 have HFIN:=Lib.hid hfin
 clear hfin hdec
 have y0:=HF0.cell (i:=0) (show 0<6 by decide)
 have y1:=HF0.cell (i:=1) (show 1<6 by decide)
 have y2:=HF0.cell (i:=2) (show 2<6 by decide)
 have y3:=HF0.cell (i:=3) (show 3<6 by decide)
 have y4:=HF0.cell (i:=4) (show 4<6 by decide)
 have y5:=HF0.cell (i:=5) (show 5<6 by decide)
 simp only[F6.list,List.getD_cons_zero,List.getD_cons_succ]at y0 y1 y2 y3 y4 y5
 have f0:=HF0.free 0
 have f1:=HF0.free 1
 have f2:=HF0.free 2
 have f3:=HF0.free 3
 have f4:=HF0.free 4
 have f5:=HF0.free 5
 have g0:=fun t w=>hop_add (x:=ceilBits fa) (y:=4607182418800017408) (show _=some (fadd (ceilBits fa) wOne)from a2) t w
 obtain⟨sg,mg,pl,hdc⟩:∃s m p,FloatKind.f64.decode fa= .number s m p:=by
  obtain⟨A,t,c,x,E,B,hA,hA1,-⟩:=HR
  exact(ceil_FZ hA (by omega)).1
 have g1:=fun t w=>hop_add (x:=fc) (y:=4604180019048437077) (show _=some (fadd fc w23)from c2') t w
 have g2:=fun t w=>hop_add (x:=ft) (y:=4604180019048437077) (show _=some (fadd ft w23)from t2) t w
 have g3:=fun t w=>hop_add (x:=fx) (y:=4604180019048437077) (show _=some (fadd fx w23)from x2) t w
 have g4:=fun t w=>hop_add (x:=fe) (y:=4604930618986332160) (show _=some (fadd fe w34)from e2) t w
 have g5:=fun t w=>hop_add (x:=fb') (y:=4607182418800017408) (show _=some (fadd fb' wOne)from b1) t w
 have HN:=Lib.hid (((((((HM.set 0 (ceilBits fa)).set 0 (fadd (ceilBits fa) wOne)).set 1 (fadd fc w23)).set 2 (fadd ft w23)).set 3 (fadd fx w23)).set 4 (fadd fe w34)).set 5 (fadd fb' wOne))
 clear a1 a2 c1 c2' t1 t2 x1 x2 e1 e2 b1 HR HF0 hc
 have hpi:(p:Int)+(n:Int)<(msg.length:Int):=by omega
 have hpe:((p:Int)+(n:Int)==(msg.length:Int))=false:=by simp;omega
 have hn1:n≤1000:=by omega
 clear HM
 generalize fadd (ceilBits fa) wOne=v0 at*
 generalize fadd fc w23=v1 at*
 generalize fadd ft w23=v2 at*
 generalize fadd fx w23=v3 at*
 generalize fadd fe w34=v4 at*
 generalize fadd fb' wOne=v5 at*
 unfold fr
 conv=>arg 2;whnf
 go_upto_if 211 with(first|(go_at_call 178;refine(h178 _).mono ?_;rintro e w2 ⟨rfl,rfl⟩)|(go_at_call 177;refine(h177 _).mono ?_;rintro e w2 ⟨rfl,rfl⟩)|(go_at_call 181;refine(ceil_calls hdc _).mono ?_;rintro e w2 ⟨rfl,rfl⟩)|(go_at_call 182;refine(h182 _).mono ?_;rintro e w2 ⟨rfl,rfl⟩)|(go_at_call 183;refine(h183 _).mono ?_;rintro e w2 ⟨rfl,rfl⟩)|(go_at_call 184;refine(h184 _).mono ?_;rintro e w2 ⟨rfl,rfl⟩)|(go_at_call 185;refine(h185 _).mono ?_;rintro e w2 ⟨rfl,rfl⟩)|(go_at_call 186;refine(h186 _).mono ?_;rintro e w2 ⟨rfl,rfl⟩))
 generalize hA:(Act.mk _ _:Act)=A
 have q211:A.tmps.getD 211 undef= .bool (decide ((n:Int)+1≥4)):=by rw[←hA];rfl
 obtain⟨T',rfl⟩:=fr_of (a:=A) (c0:= .slice (some ⟨mb,0,none⟩) msg.length mcap) (c1:= .int .i64 p) (c2:=c2) (c6:=c6) (c7:= .slice (some ⟨fb,0,none⟩) 6 6) (c8:= .int .i64 ((n:Int)+1))
  (by rw[←hA];rfl) (by rw[←hA]) (by rw[←hA];rfl) (by rw[←hA];rfl) (by rw[←hA];rfl) (by rw[←hA];rfl) (by rw[←hA];rfl) (by rw[←hA];rfl)
 clear hA
 exact HD.out T' _ (by rw[HFIN.out];exact HN.out) q211
end Go.Proofs.YtcnallabiffemaaGreatDoor
