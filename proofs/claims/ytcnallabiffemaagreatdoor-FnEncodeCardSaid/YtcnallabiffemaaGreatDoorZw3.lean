/- The laws' guards: fine, fits. -/
import Derived.Test.YtcnallabiffemaaGreatDoorZg14
import Derived.Test.YtcnallabiffemaaGreatDoorZs
set_option linter.unusedVariables false
set_option linter.unusedSimpArgs false
namespace Go.Proofs.YtcnallabiffemaaGreatDoor
section
open Go.RowKit
theorem cls_iff (z:Nat):clsOf z<4↔z=32∨(48≤z∧z≤57)∨(65≤z∧z≤90)∨(97≤z∧z≤122):=by
 unfold clsOf
 constructor
 ·intro h
  split at h
  ·exact .inl (by assumption)
  ·split at h
   ·exact .inr (.inl (by assumption))
   ·split at h
    ·exact .inr (.inr (.inl (by assumption)))
    ·split at h
     ·exact .inr (.inr (.inr (by assumption)))
     ·omega
 ·intro h
  split
  ·omega
  ·split
   ·omega
   ·split
    ·omega
    ·split
     ·omega
     ·omega
theorem toList_ne {s:ByteArray} (h:1≤s.size):¬s.toList=[]:=fun e=>by
 rw[ByteArray.toList_eq]at e
 have:s.size=s.data.toList.length:=by rw[Array.length_toList];rfl
 rw[e,List.length_nil]at this
 omega
def SimpleP (s:ByteArray):Prop:=∀k (h:k<s.size),clsOf (s[k]'h).toNat<4
set_option maxRecDepth 100000 in
set_option maxHeartbeats 4000000 in
theorem simple_yes {s:ByteArray} (hs:s.size≤1000) (h:SimpleP s) (w:World):Calls Tryz.prog 26 #[.string s] w fun e w'=>e= .returned (.bool true)∧w'=w:=by
 have H:=Lib.hid h
 clear h
 go_enter Tryz.func26,Tryz.ntmps26
 go_wp2
 go_loopw [7] (fun i wr=>∃k:Nat,k≤s.size∧i= .int .i64 k∧wr=w) (fun i _=>s.size-(intOf i).toNat)
 case atStart=>exact⟨0,by omega,rfl,rfl⟩
 case round=>
  obtain⟨k,hk,rfl,rfl⟩:=hrel
  by_cases hlt:k<s.size
  ·have hki:(k:Int)<(s.size:Int):=by omega
   have hz:=H.out k hlt
   go_upto_region 5 with fail
   generalize (s[k]'hlt).toNat=z at*
   rcases(cls_iff z).1 hz with h1|h1|h1|h1
   ·subst h1
    go_wp2
    exact⟨⟨k+1,by omega,by go_num,trivial⟩,by simp[intOf];omega⟩
   ·have c1:(z:Int)<97:=by omega
    have c2:(z:Int)<65:=by omega
    have c3:¬(z:Int)<48:=by omega
    have c4:¬(57:Int)<(z:Int):=by omega
    have b3:decide ((z:Int)<48)=false:=by simp;omega
    have b4:decide ((57:Int)<(z:Int))=false:=by simp;omega
    go_wp2
    exact⟨⟨k+1,by omega,by go_num,trivial⟩,by simp[intOf];omega⟩
   ·have c1:(z:Int)<97:=by omega
    have c2:¬(z:Int)<65:=by omega
    have c3:¬(90:Int)<(z:Int):=by omega
    have b3:decide ((z:Int)<65)=false:=by simp;omega
    have b4:decide ((90:Int)<(z:Int))=false:=by simp;omega
    go_wp2
    exact⟨⟨k+1,by omega,by go_num,trivial⟩,by simp[intOf];omega⟩
   ·have c1:¬(z:Int)<97:=by omega
    have c2:¬(122:Int)<(z:Int):=by omega
    have b3:decide ((z:Int)<97)=false:=by simp;omega
    have b4:decide ((122:Int)<(z:Int))=false:=by simp;omega
    go_wp2
    exact⟨⟨k+1,by omega,by go_num,trivial⟩,by simp[intOf];omega⟩
  ·have hki:¬(k:Int)<(s.size:Int):=by omega
   go_wp2
   go_ret
   exact⟨rfl,rfl⟩
set_option maxRecDepth 100000 in
set_option maxHeartbeats 4000000 in
theorem simple_no {s:ByteArray} (hs:s.size≤1000) {k0:Nat} (hk0:k0<s.size) (h:∀k (h:k<s.size),k<k0→clsOf (s[k]'h).toNat<4) (h0:¬clsOf (s[k0]'hk0).toNat<4) (w:World):Calls Tryz.prog 26 #[.string s] w fun e w'=>e= .returned (.bool false)∧w'=w:=by
 have H:=Lib.hid h
 have H0:=Lib.hid h0
 clear h h0
 go_enter Tryz.func26,Tryz.ntmps26
 go_wp2
 go_loopw [7] (fun i wr=>∃k:Nat,k≤k0∧i= .int .i64 k∧wr=w) (fun i _=>s.size-(intOf i).toNat)
 case atStart=>exact⟨0,by omega,rfl,rfl⟩
 case round=>
  obtain⟨k,hk,rfl,rfl⟩:=hrel
  have hlt:k<s.size:=by omega
  have hki:(k:Int)<(s.size:Int):=by omega
  by_cases hkk:k<k0
  ·have hz:=H.out k hlt hkk
   go_upto_region 5 with fail
   generalize (s[k]'hlt).toNat=z at*
   rcases(cls_iff z).1 hz with h1|h1|h1|h1
   ·subst h1
    go_wp2
    exact⟨⟨k+1,by omega,by go_num,trivial⟩,by simp[intOf];omega⟩
   ·have c1:(z:Int)<97:=by omega
    have c2:(z:Int)<65:=by omega
    have c3:¬(z:Int)<48:=by omega
    have c4:¬(57:Int)<(z:Int):=by omega
    have b3:decide ((z:Int)<48)=false:=by simp;omega
    have b4:decide ((57:Int)<(z:Int))=false:=by simp;omega
    go_wp2
    exact⟨⟨k+1,by omega,by go_num,trivial⟩,by simp[intOf];omega⟩
   ·have c1:(z:Int)<97:=by omega
    have c2:¬(z:Int)<65:=by omega
    have c3:¬(90:Int)<(z:Int):=by omega
    have b3:decide ((z:Int)<65)=false:=by simp;omega
    have b4:decide ((90:Int)<(z:Int))=false:=by simp;omega
    go_wp2
    exact⟨⟨k+1,by omega,by go_num,trivial⟩,by simp[intOf];omega⟩
   ·have c1:¬(z:Int)<97:=by omega
    have c2:¬(122:Int)<(z:Int):=by omega
    have b3:decide ((z:Int)<97)=false:=by simp;omega
    have b4:decide ((122:Int)<(z:Int))=false:=by simp;omega
    go_wp2
    exact⟨⟨k+1,by omega,by go_num,trivial⟩,by simp[intOf];omega⟩
  ·obtain rfl:k=k0:=by omega
   have hz:=H0.out
   have hz8:=(s[k]'hlt).toNat_lt
   go_upto_region 5 with fail
   generalize (s[k]'hlt).toNat=z at*
   rw[cls_iff]at hz
   have hz5:z<32∨(32<z∧z<48)∨(57<z∧z<65)∨(90<z∧z<97)∨122<z:=by omega
   have HZ:=Lib.hid hz
   clear hz
   have n32:z≠32:=by omega
   have e32:((z:Int)==32)=false:=by rw[beq_eq_false_iff_ne];omega
   rcases hz5 with h1|h1|h1|h1|h1
   ·have c1:(z:Int)<97:=by omega
    have c2:(z:Int)<65:=by omega
    have c3:(z:Int)<48:=by omega
    go_wp2
    go_ret
    exact⟨rfl,rfl⟩
   ·have c1:(z:Int)<97:=by omega
    have c2:(z:Int)<65:=by omega
    have c3:(z:Int)<48:=by omega
    go_wp2
    go_ret
    exact⟨rfl,rfl⟩
   ·have c1:(z:Int)<97:=by omega
    have c2:(z:Int)<65:=by omega
    have c3:¬(z:Int)<48:=by omega
    have c4:(57:Int)<(z:Int):=by omega
    have b3:decide ((z:Int)<48)=false:=by simp;omega
    go_wp2
    go_ret
    exact⟨rfl,rfl⟩
   ·have c1:(z:Int)<97:=by omega
    have c2:¬(z:Int)<65:=by omega
    have c3:(90:Int)<(z:Int):=by omega
    have c4:¬(z:Int)<48:=by omega
    have c5:(57:Int)<(z:Int):=by omega
    have b2:decide ((z:Int)<65)=false:=by simp;omega
    have b3:decide ((z:Int)<48)=false:=by simp;omega
    go_wp2
    go_ret
    exact⟨rfl,rfl⟩
   ·have c1:¬(z:Int)<97:=by omega
    have c2:¬(z:Int)<65:=by omega
    have c3:(90:Int)<(z:Int):=by omega
    have c4:¬(z:Int)<48:=by omega
    have c5:(57:Int)<(z:Int):=by omega
    have c6:(122:Int)<(z:Int):=by omega
    have b1:decide ((z:Int)<97)=false:=by simp;omega
    have b2:decide ((z:Int)<65)=false:=by simp;omega
    have b3:decide ((z:Int)<48)=false:=by simp;omega
    go_wp2
    go_ret
    exact⟨rfl,rfl⟩
theorem plain_yes {s:ByteArray} (hs:s.size≤1000) (h1:1≤s.size) (h:∀k (h:k<s.size),(s[k]'h).toNat<128) (w:World):Calls Tryz.prog 60 #[.string s] w fun e w'=>e= .returned (.bool true)∧w'=w:=by
 have H:=Lib.hid h
 have hne:¬s=⟨#[]⟩:=fun e=>by rw[e]at h1;exact absurd h1 (by decide)
 clear h
 go_enter Tryz.func60,Tryz.ntmps60
 go_wp2
 go_loopw [6] (fun i wr=>∃k:Nat,k≤s.size∧i= .int .i64 k∧wr=w) (fun i _=>s.size-(intOf i).toNat)
 case atStart=>exact⟨0,by omega,rfl,rfl⟩
 case round=>
  obtain⟨k,hk,rfl,rfl⟩:=hrel
  by_cases hlt:k<s.size
  ·have hki:(k:Int)<(s.size:Int):=by omega
   have hz:=H.out k hlt
   have hzi:¬(((s[k]'hlt).toNat:Int)≥128):=by omega
   go_wp2
   exact⟨⟨k+1,by omega,by go_num,trivial⟩,by simp[intOf];omega⟩
  ·have hki:¬(k:Int)<(s.size:Int):=by omega
   go_wp2
   go_ret
   exact⟨by simp[toList_ne h1],rfl⟩
theorem plain_no {s:ByteArray} (hs:s.size≤1000) {k0:Nat} (hk0:k0<s.size) (h:∀k (h:k<s.size),k<k0→(s[k]'h).toNat<128) (h0:¬(s[k0]'hk0).toNat<128) (w:World):Calls Tryz.prog 60 #[.string s] w fun e w'=>e= .returned (.bool false)∧w'=w:=by
 have H:=Lib.hid h
 have H0:=Lib.hid h0
 clear h h0
 go_enter Tryz.func60,Tryz.ntmps60
 go_wp2
 go_loopw [6] (fun i wr=>∃k:Nat,k≤k0∧i= .int .i64 k∧wr=w) (fun i _=>s.size-(intOf i).toNat)
 case atStart=>exact⟨0,by omega,rfl,rfl⟩
 case round=>
  obtain⟨k,hk,rfl,rfl⟩:=hrel
  have hlt:k<s.size:=by omega
  have hki:(k:Int)<(s.size:Int):=by omega
  by_cases hkk:k<k0
  ·have hz:=H.out k hlt hkk
   have hzi:¬(((s[k]'hlt).toNat:Int)≥128):=by omega
   go_wp2
   exact⟨⟨k+1,by omega,by go_num,trivial⟩,by simp[intOf];omega⟩
  ·obtain rfl:k=k0:=by omega
   have hz:=H0.out
   have hzi:((s[k]'hlt).toNat:Int)≥128:=by omega
   go_wp2
   go_ret
   exact⟨rfl,rfl⟩
theorem plain_nil {s:ByteArray} (h:s.size=0) (w:World):Calls Tryz.prog 60 #[.string s] w fun e w'=>e= .returned (.bool false)∧w'=w:=by
 obtain rfl:s=⟨#[]⟩:=by
  cases s with|mk d=>cases d with|mk l=>cases l with|nil=>rfl|cons a b=>simp[ByteArray.size]at h
 go_enter Tryz.func60,Tryz.ntmps60
 go_wp2
 refine wp_loop_rounds 1 ?_
 rw[rounds_succ]
 go_wp2
 go_ret
 exact⟨rfl,rfl⟩
end
section
open Go.RowKit
theorem first_of {Q:Nat→Prop}:∀n,Q n→∃k,Q k∧k≤n∧∀j,j<k→¬Q j:=by
 intro n
 induction n using Nat.strongRecOn with
 |_ n ih=>
  intro h
  by_cases hj:∃j,j<n∧Q j
  ·obtain⟨j,hjn,hq⟩:=hj
   obtain⟨k,a,b,c⟩:=ih j hjn hq
   exact⟨k,a,by omega,c⟩
  ·exact⟨n,h,Nat.le_refl _,fun j hjn hq=>hj ⟨j,hjn,hq⟩⟩
theorem first_bad {s:ByteArray} {P:Nat→Prop} (h:¬∀k (h:k<s.size),P (s[k]'h).toNat):∃k0,∃hk0:k0<s.size,(∀k (h:k<s.size),k<k0→P (s[k]'h).toNat)∧¬P (s[k0]'hk0).toNat:=by
 have h1:∃k,∃hk:k<s.size,¬P (s[k]'hk).toNat:=by
  refine Classical.byContradiction fun hn=>h fun k hk=>Classical.byContradiction fun hp=>hn ⟨k,hk,hp⟩
 obtain⟨k,hk⟩:=h1
 obtain⟨k0,⟨hk0,hp⟩,-,hm⟩:=first_of (Q:=fun k=>∃hk:k<s.size,¬P (s[k]'hk).toNat) k hk
 exact⟨k0,hk0,fun j hj hlt=>Classical.byContradiction fun hp=>hm j hlt ⟨hj,hp⟩,hp⟩
def FineP (s:ByteArray):Prop:=s.size≤1000∧1≤s.size∧∀k (h:k<s.size),(s[k]'h).toNat<128
theorem fine_yes {s:ByteArray} (h:FineP s) (w:World):Calls Tryz.prog 25 #[.string s] w fun e w'=>e= .returned (.bool true)∧w'=w:=by
 have h1:=h.1
 have H:=Lib.hid h
 have hi:(s.size:Int)≤1000:=by omega
 clear h
 go_enter Tryz.func25,Tryz.ntmps25
 go_wp2_with (go_at_call 60;refine(plain_yes h1 H.out.2.1 H.out.2.2 _).mono ?_;rintro e w1 ⟨rfl,rfl⟩)
 go_ret
 exact⟨rfl,rfl⟩
theorem fine_no {s:ByteArray} (h:¬FineP s) (hm:s.size≤2147483647) (w:World):Calls Tryz.prog 25 #[.string s] w fun e w'=>e= .returned (.bool false)∧w'=w:=by
 by_cases h1:s.size≤1000
 ·have hi:(s.size:Int)≤1000:=by omega
  have P60:∀wx,Calls Tryz.prog 60 #[.string s] wx fun e w'=>e= .returned (.bool false)∧w'=wx:=fun wx=>by
   by_cases h2:s.size=0
   ·exact plain_nil h2 wx
   ·have h3:¬∀k (h:k<s.size),(s[k]'h).toNat<128:=fun h3=>h ⟨h1,by omega,h3⟩
    obtain⟨k0,hk0,ha,hb⟩:=first_bad (P:=fun n=>n<128) h3
    exact plain_no h1 hk0 ha hb wx
  have P60:=Lib.hid P60
  clear h
  go_enter Tryz.func25,Tryz.ntmps25
  go_wp2_with (go_at_call 60;refine(P60.out _).mono ?_;rintro e w1 ⟨rfl,rfl⟩)
  go_ret
  exact⟨rfl,rfl⟩
 ·have hi:¬(s.size:Int)≤1000:=by omega
  have hb:decide ((s.size:Int)≤1000)=false:=decide_eq_false hi
  clear h
  go_enter Tryz.func25,Tryz.ntmps25
  go_wp2
  go_ret
  exact⟨rfl,rfl⟩
def FitsP (s:ByteArray) (n:Int):Prop:=s.size≤1000∧1≤s.size∧SimpleP s∧0≤n∧n≤2∧(n=2→s.size≤40)
theorem FitsP.fine {s:ByteArray} {n:Int} (h:FitsP s n):FineP s:=⟨h.1,h.2.1,fun k hk=>by
 have:=(cls_iff _).1 (h.2.2.1 k hk)
 omega⟩
set_option maxHeartbeats 1000000 in
theorem fits_yes {s:ByteArray} {n:Int} (h:FitsP s n) (w:World):Calls Tryz.prog 8 #[.string s,.int .i64 n] w fun e w'=>e= .returned (.bool true)∧w'=w:=by
 have H:=Lib.hid h
 obtain⟨h1,h2,h3,h4,h5,h6⟩:=h
 have hn:n=0∨n=1∨n=2:=by omega
 clear h3
 rcases hn with rfl|rfl|rfl
 ·go_enter Tryz.func8,Tryz.ntmps8
  go_wp2_with (first|(go_at_call 25;refine(fine_yes H.out.fine _).mono ?_;rintro e w1 ⟨rfl,rfl⟩)|(go_at_call 26;refine(simple_yes h1 H.out.2.2.1 _).mono ?_;rintro e w2 ⟨rfl,rfl⟩))
  go_ret
  exact⟨rfl,rfl⟩
 ·go_enter Tryz.func8,Tryz.ntmps8
  go_wp2_with (first|(go_at_call 25;refine(fine_yes H.out.fine _).mono ?_;rintro e w1 ⟨rfl,rfl⟩)|(go_at_call 26;refine(simple_yes h1 H.out.2.2.1 _).mono ?_;rintro e w2 ⟨rfl,rfl⟩))
  go_ret
  exact⟨rfl,rfl⟩
 ·have h40:(s.size:Int)≤40:=by have:=h6 rfl;omega
  clear h6
  go_enter Tryz.func8,Tryz.ntmps8
  go_wp2_with (first|(go_at_call 25;refine(fine_yes H.out.fine _).mono ?_;rintro e w1 ⟨rfl,rfl⟩)|(go_at_call 26;refine(simple_yes h1 H.out.2.2.1 _).mono ?_;rintro e w2 ⟨rfl,rfl⟩))
  go_ret
  exact⟨rfl,rfl⟩
set_option maxHeartbeats 2000000 in
theorem fits_no {s:ByteArray} {n:Int} (h:¬FitsP s n) (hm:s.size≤2147483647) (w:World):Calls Tryz.prog 8 #[.string s,.int .i64 n] w fun e w'=>e= .returned (.bool false)∧w'=w:=by
 by_cases hf:FineP s
 ·have HF:=Lib.hid hf
  have h1:=hf.1
  by_cases h4:0≤n
  ·by_cases h5:n≤2
   ·by_cases h6:n=2∧40<s.size
    ·obtain⟨rfl,h40⟩:=h6
     have hi:¬(s.size:Int)≤40:=by omega
     have hb:decide ((s.size:Int)≤40)=false:=decide_eq_false hi
     clear h hf
     go_enter Tryz.func8,Tryz.ntmps8
     go_wp2_with (first|(go_at_call 25;refine(fine_yes HF.out _).mono ?_;rintro e w1 ⟨rfl,rfl⟩))
     go_ret
     exact⟨rfl,rfl⟩
    ·have h3:¬SimpleP s:=fun h3=>h ⟨hf.1,hf.2.1,h3,h4,h5,fun e=>by omega⟩
     obtain⟨k0,hk0,ha,hb⟩:=first_bad (P:=fun n=>clsOf n<4) h3
     have S26:=Lib.hid (simple_no h1 hk0 ha hb)
     have hn:n=0∨n=1∨n=2:=by omega
     clear h hf h3 ha hb
     rcases hn with rfl|rfl|rfl
     ·clear h6
      go_enter Tryz.func8,Tryz.ntmps8
      go_wp2_with (first|(go_at_call 25;refine(fine_yes HF.out _).mono ?_;rintro e w1 ⟨rfl,rfl⟩)|(go_at_call 26;refine(S26.out _).mono ?_;rintro e w2 ⟨rfl,rfl⟩))
      go_ret
      exact⟨rfl,rfl⟩
     ·clear h6
      go_enter Tryz.func8,Tryz.ntmps8
      go_wp2_with (first|(go_at_call 25;refine(fine_yes HF.out _).mono ?_;rintro e w1 ⟨rfl,rfl⟩)|(go_at_call 26;refine(S26.out _).mono ?_;rintro e w2 ⟨rfl,rfl⟩))
      go_ret
      exact⟨rfl,rfl⟩
     ·have h40:(s.size:Int)≤40:=by omega
      clear h6
      go_enter Tryz.func8,Tryz.ntmps8
      go_wp2_with (first|(go_at_call 25;refine(fine_yes HF.out _).mono ?_;rintro e w1 ⟨rfl,rfl⟩)|(go_at_call 26;refine(S26.out _).mono ?_;rintro e w2 ⟨rfl,rfl⟩))
      go_ret
      exact⟨rfl,rfl⟩
   ·have hb:decide (n≤2)=false:=decide_eq_false h5
    have hge:n≥0:=h4
    clear h hf
    go_enter Tryz.func8,Tryz.ntmps8
    go_wp2_with (first|(go_at_call 25;refine(fine_yes HF.out _).mono ?_;rintro e w1 ⟨rfl,rfl⟩))
    go_ret
    exact⟨rfl,rfl⟩
  ·have hb:decide (n≥0)=false:=decide_eq_false h4
   have hb2:decide (0≤n)=false:=decide_eq_false h4
   clear h hf
   go_enter Tryz.func8,Tryz.ntmps8
   go_wp2_with (first|(go_at_call 25;refine(fine_yes HF.out _).mono ?_;rintro e w1 ⟨rfl,rfl⟩))
   go_ret
   exact⟨rfl,rfl⟩
 ·have F25:=Lib.hid (fine_no hf hm)
  clear h hf
  go_enter Tryz.func8,Tryz.ntmps8
  go_wp2_with (first|(go_at_call 25;refine(F25.out _).mono ?_;rintro e w1 ⟨rfl,rfl⟩))
  go_ret
  exact⟨rfl,rfl⟩
end
end Go.Proofs.YtcnallabiffemaaGreatDoor
