/- The codewords that the encoder may use, as a relation; its moves; the check of a table of promises, and that a checked table is true. -/
import Derived.Laws.FloatArith
import Derived.KernelRfl
set_option linter.unusedVariables false
set_option linter.unusedSimpArgs false
namespace Go.Proofs.YtcnallabiffemaaGreatDoor
section
open Ieee
def FP (w N:Nat):Prop:=∃q z,z<4503599627370496∧1022≤q∧q≤1100∧w=q*4503599627370496+z∧N=(4503599627370496+z)*2^(q-1022)
theorem read_FP {q z:Nat} (hz:z<4503599627370496) (h1:1022≤q) (h2:q≤1100):
 Ieee.double.read (q*4503599627370496+z)= .number false (4503599627370496+z) ((q:Int)-1075):=by
 have hb:Ieee.double.binade=4503599627370496:=by decide
 have hs:Ieee.double.signWeight=9223372036854775808:=by decide
 have hi:Ieee.double.infRung=9218868437227405312:=by decide
 have hl:Ieee.double.leastPlace= -1074:=by decide
 unfold Format.read
 rw[hb,hs,hi,hl]
 have e1:(q*4503599627370496+z)/9223372036854775808=0:=by omega
 have e2:(q*4503599627370496+z)%9223372036854775808=q*4503599627370496+z:=by omega
 simp only[e1,e2]
 rw[if_neg (by omega),if_pos (by omega)]
 have e3:(q*4503599627370496+z)%4503599627370496=z:=by omega
 have e4:(q*4503599627370496+z)/4503599627370496=q:=by omega
 rw[e3,e4]
 congr 1
 omega
theorem cut_even (n d:Nat) (hd:d≤n.log2+2):∃k,Toward.even.cut false n d=k∧n≤k*2^d+2^d/2∧k*2^d≤n+2^d/2∧(n%2^d=0→k*2^d=n)∧(k=n/2^d∨k=n/2^d+1):=by
 refine⟨_,rfl,?_⟩
 have hg:1 <<< min d (n.log2+2)=2^d:=by rw[Nat.min_eq_left hd,Nat.one_shiftLeft]
 unfold Toward.cut
 rw[hg]
 have hp:0<2^d:=Nat.two_pow_pos d
 have h2:d=0∨2^d%2=0:=by
  cases d with
  |zero=>left;rfl
  |succ d=>right;rw[Nat.pow_succ];omega
 have hdm:=Nat.div_add_mod n (2^d)
 have hml:=Nat.mod_lt n hp
 dsimp only
 generalize 2^d=g at*
 generalize n/g=low at*
 generalize n%g=rest at*
 have hc:g*low=low*g:=Nat.mul_comm g low
 have hc1:(low+1)*g=low*g+g:=by rw[Nat.succ_mul]
 cases hm:(decide (g<2*rest)||(g==2*rest&&low%2==1))with
 |true=>
  simp only[Bool.toNat_true]
  have:g≤2*rest:=by
   simp only[Bool.or_eq_true,Bool.and_eq_true,decide_eq_true_eq,beq_iff_eq]at hm
   omega
  refine⟨?_,?_,?_,by simp⟩
  ·rw[hc1];omega
  ·rw[hc1];rcases h2 with h2|h2
   ·subst h2;omega
   ·omega
  ·intro h0;omega
 |false=>
  simp only[Bool.toNat_false,Nat.add_zero]
  have:2*rest≤g:=by
   simp only[Bool.or_eq_false_iff,decide_eq_false_iff_not]at hm
   omega
  refine⟨?_,?_,?_,by simp⟩
  ·omega
  ·omega
  ·intro h0;omega
theorem word_of_kept {h k:Nat} (h1:h≤70) (hk1:4503599627370496≤k) (hk2:k≤9007199254740992):FP ((h+1021)*4503599627370496+k) (k*2^h):=by
 rcases Nat.lt_or_ge k 9007199254740992 with hk|hk
 ·refine⟨h+1022,k-4503599627370496,by omega,by omega,by omega,by omega,?_⟩
  have e1:4503599627370496+(k-4503599627370496)=k:=by omega
  have e2:h+1022-1022=h:=by omega
  rw[e1,e2]
 ·obtain rfl:k=9007199254740992:=by omega
  refine⟨h+1023,0,by omega,by omega,by omega,by omega,?_⟩
  have e2:h+1023-1022=h+1:=by omega
  rw[e2,Nat.pow_succ];omega
theorem nearest_FP {mag pn N:Nat} (hN:N=mag*2^pn) (h1:4503599627370496≤N) (h2:N<73786976294838206464):
 ∃c,FP (Ieee.double.nearest false mag ((pn:Int)-53)) c∧N≤c+4096∧c≤N+4096∧(N%8192=0→c=N):=by
 have hl:Ieee.double.leastPlace= -1074:=by decide
 have hb:Ieee.double.binade=4503599627370496:=by decide
 have hi:Ieee.double.infRung=9218868437227405312:=by decide
 have hf:Ieee.double.fractionBits=52:=by decide
 have hp:0<2^pn:=Nat.two_pow_pos pn
 have hm0:mag≠0:=by intro e;subst e;simp at hN;omega
 have hN0:N≠0:=by omega
 have hlog:N.log2=mag.log2+pn:=by
  have a1:=Nat.log2_self_le hm0
  have a2:=@Nat.lt_log2_self mag
  refine(Nat.log2_eq_iff hN0).2 ⟨?_,?_⟩
  ·rw[hN,Nat.pow_add];exact Nat.mul_le_mul_right _ a1
  ·rw[hN,show mag.log2+pn+1=(mag.log2+1)+pn by omega,Nat.pow_add];exact Nat.mul_lt_mul_of_pos_right a2 hp
 have hL1:52≤N.log2:=(Nat.le_log2 hN0).2 (by simpa using h1)
 have hL2:N.log2<66:=(Nat.log2_lt hN0).2 (by simpa using h2)
 obtain⟨h,hh⟩:∃h,N.log2=h+52:=⟨N.log2-52,by omega⟩
 have hh1:h≤13:=by omega
 have s1:4503599627370496*2^h≤N:=by
  have:=Nat.log2_self_le hN0
  rw[hh,Nat.pow_add]at this
  have e:(2:Nat)^52=4503599627370496:=by decide
  rw[e,Nat.mul_comm]at this;exact this
 have s2:N<9007199254740992*2^h:=by
  have:=@Nat.lt_log2_self N
  rw[hh,show h+52+1=h+53 by omega,Nat.pow_add]at this
  have e:(2:Nat)^53=9007199254740992:=by decide
  rw[e,Nat.mul_comm]at this;exact this
 have hph:0<2^h:=Nat.two_pow_pos h
 have h2h:2^h∣8192:=by
  have:(2:Nat)^13=8192:=by decide
  rw[←this];exact Nat.pow_dvd_pow 2 hh1
 have h2le:2^h≤8192:=Nat.le_of_dvd (by decide) h2h
 have key:∃k,Toward.even.cut false (mag <<< ((pn:Int)-53-(((h:Int)+52)-105)).toNat) ((((h:Int)+52)-105)-((pn:Int)-53)).toNat=k∧
  N≤k*2^h+2^h/2∧k*2^h≤N+2^h/2∧(N%2^h=0→k*2^h=N)∧4503599627370496≤k∧k≤9007199254740992:=by
  rcases Nat.lt_or_ge pn h with hlt|hge
  ·have e1:((pn:Int)-53-(((h:Int)+52)-105)).toNat=0:=by omega
   have e2:((((h:Int)+52)-105)-((pn:Int)-53)).toNat=h-pn:=by omega
   rw[e1,e2,Nat.shiftLeft_zero]
   obtain⟨k,hk,k1,k2,k3,k4⟩:=cut_even mag (h-pn) (by omega)
   refine⟨k,hk,?_⟩
   have epow:2^h=2^(h-pn)*2^pn:=by rw[←Nat.pow_add];congr 1;omega
   have hg:0<2^(h-pn):=Nat.two_pow_pos _
   have hgd:2^(h-pn)%2=0:=by
    obtain⟨r,hr⟩:∃r,h-pn=r+1:=⟨h-pn-1,by omega⟩
    rw[hr,Nat.pow_succ];omega
   have hhalf:2^h/2=2^(h-pn)/2*2^pn:=by
    rw[epow]
    obtain⟨r,hr⟩:∃r,2^(h-pn)=r*2:=⟨2^(h-pn)/2,by omega⟩
    rw[hr,Nat.mul_div_cancel _ (by decide),Nat.mul_right_comm,Nat.mul_div_cancel _ (by decide)]
   have t1:N≤k*2^h+2^h/2:=by
    rw[hN,hhalf,epow,←Nat.mul_assoc,←Nat.add_mul];exact Nat.mul_le_mul_right _ k1
   have t2:k*2^h≤N+2^h/2:=by
    rw[hN,hhalf,epow,←Nat.mul_assoc,←Nat.add_mul];exact Nat.mul_le_mul_right _ k2
   refine⟨t1,t2,?_,?_,?_⟩
   ·intro h0
    have:mag%2^(h-pn)=0:=by
     have hd:2^(h-pn)*2^pn∣mag*2^pn:=by rw[←epow,←hN];exact Nat.dvd_of_mod_eq_zero h0
     exact Nat.mod_eq_zero_of_dvd (Nat.dvd_of_mul_dvd_mul_right hp hd)
    rw[epow,←Nat.mul_assoc,k3 this,hN]
   ·
    rcases Nat.lt_or_ge k 4503599627370496 with hk'|hk'
    ·exfalso
     have:(k+1)*2^h≤4503599627370496*2^h:=Nat.mul_le_mul_right _ hk'
     rw[Nat.succ_mul]at this
     omega
    ·exact hk'
   ·rcases Nat.lt_or_ge 9007199254740992 k with hk'|hk'
    ·exfalso
     have:(9007199254740992+1)*2^h≤k*2^h:=Nat.mul_le_mul_right _ hk'
     rw[Nat.succ_mul]at this
     omega
    ·exact hk'
  ·have e1:((pn:Int)-53-(((h:Int)+52)-105)).toNat=pn-h:=by omega
   have e2:((((h:Int)+52)-105)-((pn:Int)-53)).toNat=0:=by omega
   rw[e1,e2]
   obtain⟨k,hk,k1,k2,k3,k4⟩:=cut_even (mag <<< (pn-h)) 0 (by omega)
   have hk5:k=mag*2^(pn-h):=by
    have:=k3 (by rw[Nat.pow_zero];exact Nat.mod_one _)
    rw[Nat.pow_zero,Nat.mul_one,Nat.shiftLeft_eq]at this;exact this
   have hk6:k*2^h=N:=by
    rw[hk5,Nat.mul_assoc,←Nat.pow_add,hN];congr 2;omega
   refine⟨k,hk,by omega,by omega,fun _=>hk6,?_,?_⟩
   ·rcases Nat.lt_or_ge k 4503599627370496 with hk'|hk'
    ·exfalso
     have:(k+1)*2^h≤4503599627370496*2^h:=Nat.mul_le_mul_right _ hk'
     rw[Nat.succ_mul]at this
     omega
    ·exact hk'
   ·rcases Nat.lt_or_ge 9007199254740992 k with hk'|hk'
    ·exfalso
     have:(9007199254740992+1)*2^h≤k*2^h:=Nat.mul_le_mul_right _ hk'
     rw[Nat.succ_mul]at this
     omega
    ·exact hk'
 obtain⟨k,hk,k1,k2,k3,k4,k5⟩:=key
 refine⟨k*2^h,?_,by omega,by omega,?_⟩
 ·have e:Ieee.double.nearest false mag ((pn:Int)-53)=(h+1021)*4503599627370496+k:=by
   unfold Format.nearest
   rw[if_neg hm0,hl,hb,hi,hf]
   have elast:max ((pn:Int)-53+(mag.log2:Int)-((52:Nat):Int)) (-1074)=((h:Int)+52)-105:=by omega
   simp only[elast,hk]
   have e3:(((h:Int)+52)-105- -1074).toNat=h+1021:=by omega
   rw[e3]
   unfold Format.word
   rw[if_neg (by decide)]
   exact Nat.min_eq_left (by omega)
  rw[e]
  exact word_of_kept (by omega) k4 k5
 ·intro h0
  exact k3 (Nat.mod_eq_zero_of_dvd (Nat.dvd_trans h2h (Nat.dvd_of_mod_eq_zero h0)))
theorem add_FP {x y a b:Nat} (hx:FP x a) (hy:FP y b) (h:a+b<73786976294838206464):
 ∃r c,Ieee.double.add x y=some r∧FP r c∧a+b≤c+4096∧c≤a+b+4096∧((a+b)%8192=0→c=a+b):=by
 obtain⟨q,z,hz,hq1,hq2,rfl,ha⟩:=hx
 obtain⟨q',z',hz',hq1',hq2',rfl,hb⟩:=hy
 obtain⟨pn,hpn⟩:∃pn:Nat,(pn:Int)-53=min ((q:Int)-1075) ((q':Int)-1075):=⟨(min q q')-1022,by clear ha hb h;omega⟩
 obtain⟨u,hu⟩:∃u:Nat,q-1022=u+pn:=⟨q-1022-pn,by clear ha hb h;omega⟩
 obtain⟨u',hu'⟩:∃u':Nat,q'-1022=u'+pn:=⟨q'-1022-pn,by clear ha hb h hu;omega⟩
 obtain⟨m1,hm1⟩:∃m1,m1=4503599627370496+z:=⟨_,rfl⟩
 obtain⟨m2,hm2⟩:∃m2,m2=4503599627370496+z':=⟨_,rfl⟩
 rw[←hm1]at ha;rw[←hm2]at hb
 obtain⟨mag,hmag⟩:∃mag,mag=m1*2^u+m2*2^u':=⟨_,rfl⟩
 have hN:a+b=mag*2^pn:=by
  rw[ha,hb,hu,hu',hmag,Nat.pow_add,Nat.pow_add,Nat.add_mul,Nat.mul_assoc,Nat.mul_assoc]
 have hpa:0<2^(q-1022):=Nat.two_pow_pos _
 have hlow:4503599627370496≤a+b:=by
  have:4503599627370496*1≤m1*2^(q-1022):=Nat.mul_le_mul (by omega) hpa
  omega
 have hsum:Ieee.double.add (q*4503599627370496+z) (q'*4503599627370496+z')=some (Ieee.double.nearest false mag ((pn:Int)-53)):=by
  unfold Format.add
  rw[read_FP hz hq1 hq2,read_FP hz' hq1' hq2',←hm1,←hm2]
  unfold Datum.sum
  dsimp only
  rw[←hpn]
  have e1:((q:Int)-1075-((pn:Int)-53)).toNat=u:=by omega
  have e2:((q':Int)-1075-((pn:Int)-53)).toNat=u':=by omega
  simp only[e1,e2,signed,if_neg (by decide:¬false=true),Nat.shiftLeft_eq]
  have e3:(((m1*2^u:Nat):Int)+((m2*2^u':Nat):Int))=((mag:Nat):Int):=by rw[hmag];exact(Int.natCast_add _ _).symm
  have e4:(if ((mag:Nat):Int)=0 then(false&&false)else decide (((mag:Nat):Int)<0))=false:=by
   split
   ·rfl
   ·exact decide_eq_false (by omega)
  rw[e3]
  simp only[e4,Int.natAbs_natCast,Option.map_some,Format.write]
 obtain⟨c,h1,h2,h3,h4⟩:=nearest_FP hN hlow h
 exact⟨_,c,hsum,h1,h2,h3,h4⟩
end
def fTab:Nat:=0x2000004000020069080000400720400002006d11c5b0200000400001705b040000200670800004006f19bdb846d5305b18826b610800004006a0800004005d11a5704684808000040054119d6016657095d58200001001946656421918c862401185401604f093d384005f197d7865d4c21712885b492925201485a10016485841215d104565519511485352294944c5031213cf844e4d21312ca4a3b3124e8c4847091d1884541290510a4443050d08a41363100fce3f3138c4f8a3e3d04f4f0c3b3a38e8e4e393810e0dcc363530d4d02343338c8a10313040c0bcc2f2e08b8b502c2b40aca862a2938a09c4272640947521d1b48908ce23221088852201f207c78a1e1518747141b1a4064612181118605ca1615305438c1514284c48c120b504440a0f0938383500c07382c2900a053024212070648141000000
def fRow (x:Nat):Nat:=Nat.mod (Nat.div fTab (Nat.pow 2 (Nat.mul 22 x))) 4194304
def fAdv (x w:Nat):Nat:=
 if x=0 then 0 else if 128≤x then(if 128+w≤x then x-w else 0)else if w=2 then fRow x/256%256 else fRow x%256
def fLo (x:Nat):Nat:=if x=0 then 0 else if 128≤x then 0 else fRow x/65536%2
def fHi (x:Nat):Nat:=if x=0 then 1 else if 128≤x then 0 else fRow x/65536%2
def fSafe (x:Nat):Nat:=if x=0 then 0 else if 128≤x then x-127 else fRow x/131072
def fOk (x y:Nat):Bool:=y==0||y==x||(Nat.ble 128 y&&Nat.ble (y-127) (fSafe x))
def fRowOk (x:Nat):Bool:=
 (fSafe x==0||fHi x==0)&&Nat.ble (fSafe x) (1+fSafe (fAdv x 1))&&Nat.ble (fSafe x) (2+fSafe (fAdv x 2))&&Nat.blt (fAdv x 1) 128&&Nat.blt (fAdv x 2) 128
def fAllOk:Nat→Bool
 |0=>true
 |n+1=>fRowOk n&&fAllOk n
theorem fAllOk_128:fAllOk 128=true:=by kernel_rfl
theorem fAllOk_at:∀n,fAllOk n=true→∀x,x<n→fRowOk x=true
 |0,_,x,h=>absurd h (Nat.not_lt_zero x)
 |n+1,e,x,h=>by
  simp only[fAllOk,Bool.and_eq_true]at e
  rcases Nat.lt_or_ge x n with h'|h'
  ·exact fAllOk_at n e.2 x h'
  ·have:x=n:=by omega
   subst this;exact e.1
theorem fRow_ok (x:Nat) (h:x<128):(fSafe x=0∨fHi x=0)∧fSafe x≤1+fSafe (fAdv x 1)∧fSafe x≤2+fSafe (fAdv x 2):=by
 have e:=fAllOk_at 128 fAllOk_128 x h
 simp only[fRowOk,Bool.and_eq_true,Bool.or_eq_true,beq_iff_eq,Nat.ble_eq]at e
 exact⟨e.1.1.1.1,e.1.1.1.2,e.1.1.2⟩
theorem fSafe_adv (x w:Nat) (hw:w=1∨w=2):fSafe x≤w+fSafe (fAdv x w):=by
 rcases Nat.lt_or_ge x 128 with h|h
 ·rcases hw with rfl|rfl
  ·exact(fRow_ok x h).2.1
  ·exact(fRow_ok x h).2.2
 ·have hx:x≠0:=by omega
  simp only[fAdv,hx,h,if_true,if_false,fSafe]
  split
  ·rename_i h2
   have:x-w≠0:=by omega
   have h3:128≤x-w:=by omega
   simp only[this,h3,if_true,if_false];omega
  ·omega
theorem fHi_safe (x:Nat) (h:1≤fSafe x):fHi x=0:=by
 rcases Nat.lt_or_ge x 128 with h1|h1
 ·rcases(fRow_ok x h1).1 with h2|h2
  ·omega
  ·exact h2
 ·have hx:x≠0:=by omega
  simp only[fHi,hx,h1,if_true,if_false]
theorem fOk_adv (x y w:Nat) (hw:w=1∨w=2) (h:fOk x y=true):fOk (fAdv x w) (fAdv y w)=true:=by
 simp only[fOk,Bool.or_eq_true,Bool.and_eq_true,beq_iff_eq,Nat.ble_eq]at h
 rcases h with(h|h)|h
 ·subst h;simp[fOk,fAdv]
 ·subst h;simp[fOk]
 ·have hs:=fSafe_adv x w hw
  have hy:y≠0:=by omega
  by_cases h2:128+w≤y
  ·have e:fAdv y w=y-w:=by simp only[fAdv,hy,h.1,h2,if_true,if_false]
   rw[e]
   simp only[fOk,Bool.or_eq_true,Bool.and_eq_true,beq_iff_eq,Nat.ble_eq]
   right;omega
  ·have e:fAdv y w=0:=by simp only[fAdv,hy,h.1,h2,if_true,if_false]
   rw[e];simp[fOk]
theorem fLo_le (x:Nat):fLo x≤1:=by simp only[fLo];split;·omega
                                   split<;>omega
theorem fHi_le (x:Nat):fHi x≤1:=by simp only[fHi];split;·omega
                                   split<;>omega
theorem fOk_lo (x y:Nat) (h:fOk x y=true):fLo y≤fLo x:=by
 simp only[fOk,Bool.or_eq_true,Bool.and_eq_true,beq_iff_eq,Nat.ble_eq]at h
 rcases h with(h|h)|h
 ·subst h;simp[fLo]
 ·subst h;exact Nat.le_refl _
 ·have hy:y≠0:=by omega
  simp[fLo,hy,h.1]
theorem fOk_hi (x y:Nat) (h:fOk x y=true):fHi x≤fHi y:=by
 simp only[fOk,Bool.or_eq_true,Bool.and_eq_true,beq_iff_eq,Nat.ble_eq]at h
 rcases h with(h|h)|h
 ·subst h;have:=fHi_le x;simp only[fHi,if_true];exact this
 ·subst h;exact Nat.le_refl _
 ·have:=fHi_safe x (by omega);omega
structure Mo where
 k:Nat
 a:Nat
 t:Nat
 c:Nat
 e:Nat
 vt:Nat
 vc:Nat
def moA (cl a:Nat):Nat:=if cl=2 then a+1 else 2*((a+1)/2)+2
def Mo.adv (m:Mo) (cl:Nat):Mo:=
 ⟨if m.k<4 then m.k+1 else m.k,moA cl m.a%2,m.t+(if cl=0 then 4 else 2)-3*(moA cl m.a/2),m.c+(if cl=1 then 4 else 2)-3*(moA cl m.a/2),
   (if 25≤m.e+(if cl=1 then 23 else 1)then 25 else m.e+(if cl=1 then 23 else 1)),fAdv m.vt (if cl=0 then 2 else 1),fAdv m.vc (if cl=1 then 2 else 1)⟩
def Mo.out (m:Mo) (i j:Nat):Nat:=
 if m.k<4 then 8
 else if (m.t+i+2)/3>1024+m.a∧(m.c+j+2)/3>1024+m.a then 1
 else if (m.t+i+2)/3<1024+m.a∧(m.t+i+2)/3<(m.c+j+2)/3 then 2
 else if (m.c+j+2)/3+1<1024+m.a∧(m.c+j+2)/3+1<(m.t+i+2)/3∧(25≤m.e∨(m.c+j+2)/3+1<(4*m.c+m.e+11)/12)then 4
 else 8
def Mo.fin (m:Mo) (i j:Nat):Nat:=
 if 1024+m.a≤(m.t+i+2)/3∧1024+m.a≤(m.c+j+2)/3 then 1 else if (m.t+i+2)/3<(m.c+j+2)/3 then 2 else 4
def goal (g o:Nat):Bool:=if g=2 then o==2 else if g=4 then o==4 else if g=5 then(o==1||o==4)else if g=3 then(o==1||o==2)else false
def Mo.may (m:Mo) (p:Nat→Nat→Bool):Bool:=p (fLo m.vt) (fLo m.vc)||p (fHi m.vt) (fLo m.vc)||p (fLo m.vt) (fHi m.vc)||p (fHi m.vt) (fHi m.vc)
def Mo.hit (m:Mo) (g:Nat):Bool:=m.may fun i j=>goal g (m.out i j)
def Mo.und (m:Mo):Bool:=m.may fun i j=>m.out i j==8
def Mo.end (m:Mo) (g:Nat):Bool:=m.may fun i j=>goal g (m.fin i j)
def Holds (g:Nat):Mo→List Nat→Prop
 |m,[]=>m.end g=true
 |m,cl::v=>(m.adv cl).hit g=true∨((m.adv cl).und=true∧Holds g (m.adv cl) v)
def xG (x:Nat):Nat:=x%8
def xT (x:Nat):Nat:=x/128%8192
def xMo (x:Nat):Mo:=⟨x/8%8,x/64%2,x/128%8192,x/1048576%8192,x/8589934592%32,x/274877906944%256,x/70368744177664⟩
def xEnc (g:Nat) (m:Mo):Nat:=g+8*(m.k+8*(m.a+2*(m.t+8192*(m.c+8192*(m.e+32*(m.vt+256*m.vc))))))
def xFits (g:Nat) (m:Mo):Bool:=Nat.blt g 8&&Nat.blt m.k 8&&Nat.blt m.a 2&&Nat.blt m.t 8192&&Nat.blt m.c 8192&&Nat.blt m.e 32&&Nat.blt m.vt 256
def H (x:Nat) (v:List Nat):Prop:=if xG x=0 then xT x≤v.length else Holds (xG x) (xMo x) v
theorem xMo_enc (g:Nat) (m:Mo) (h:xFits g m=true):xMo (xEnc g m)=m∧xG (xEnc g m)=g:=by
 simp only[xFits,Bool.and_eq_true,Nat.blt_eq]at h
 obtain⟨k,a,t,c,e,vt,vc⟩:=m
 simp only at h
 simp only[xMo,xEnc,xG,Mo.mk.injEq]
 omega
def stp (x cl:Nat):Nat:=
 if xG x=0 then(if xT x≤1 then 1 else x-128)
 else if ((xMo x).adv cl).hit (xG x)then 1
 else if ((xMo x).adv cl).und then(if xFits (xG x) ((xMo x).adv cl)then xEnc (xG x) ((xMo x).adv cl)else 1)
 else 0
theorem stp_ok (x cl:Nat) (v:List Nat) (h:H x (cl::v)):stp x cl=1∨(2≤stp x cl∧H (stp x cl) v):=by
 unfold H at h
 unfold stp
 split at h
 ·rename_i hg
  simp only[List.length_cons]at h
  rw[if_pos hg]
  split
  ·left;rfl
  ·rename_i h1
   right
   unfold xT at h1 h
   unfold xG at hg
   refine⟨by omega,?_⟩
   unfold H
   rw[if_pos (by unfold xG;omega)]
   unfold xT;omega
 ·rename_i hg
  rw[if_neg hg]
  simp only[Holds]at h
  by_cases hh:((xMo x).adv cl).hit (xG x)=true
  ·rw[if_pos hh];left;rfl
  ·rw[if_neg hh]
   rcases h with h|⟨hu,h⟩
   ·exact absurd h hh
   ·rw[if_pos hu]
    split
    ·rename_i hf
     have e:=xMo_enc _ _ hf
     right
     have hg8:xG x<8:=by unfold xG;omega
     have hg1:xG x≠1:=by
      intro e1
      clear hh e hf
      rw[e1]at h
      have:∀(v:List Nat) (m:Mo),Holds 1 m v→False:=by
       intro v
       induction v with
       |nil=>intro m h;simp[Holds,Mo.end,Mo.may,goal]at h
       |cons c v ih=>intro m h;simp only[Holds]at h;rcases h with h|h
                     ·simp[Mo.hit,Mo.may,goal]at h
                     ·exact ih _ h.2
      exact this _ _ h
     refine⟨?_,?_⟩
     ·unfold xEnc;omega
     ·unfold H
      rw[if_neg (by rw[e.2];exact hg),e.2,e.1];exact h
    ·left;rfl
theorem may_iff (m:Mo) (p:Nat→Nat→Bool):m.may p=true↔∃i j,fLo m.vt≤i∧i≤fHi m.vt∧fLo m.vc≤j∧j≤fHi m.vc∧p i j=true∧i≤1∧j≤1:=by
 have lt:=fLo_le m.vt;have ht:=fHi_le m.vt;have lc:=fLo_le m.vc;have hc:=fHi_le m.vc
 have e1:fLo m.vt≤fHi m.vt:=by simp only[fLo,fHi];split;·omega
                               split<;>omega
 have e2:fLo m.vc≤fHi m.vc:=by simp only[fLo,fHi];split;·omega
                               split<;>omega
 simp only[Mo.may,Bool.or_eq_true]
 constructor
 ·rintro(((h|h)|h)|h)
  ·exact⟨_,_,Nat.le_refl _,e1,Nat.le_refl _,e2,h,by omega,by omega⟩
  ·exact⟨_,_,e1,Nat.le_refl _,Nat.le_refl _,e2,h,by omega,by omega⟩
  ·exact⟨_,_,Nat.le_refl _,e1,e2,Nat.le_refl _,h,by omega,by omega⟩
  ·exact⟨_,_,e1,Nat.le_refl _,e2,Nat.le_refl _,h,by omega,by omega⟩
 ·rintro⟨i,j,h1,h2,h3,h4,h,h5,h6⟩
  have hi:i=fLo m.vt∨i=fHi m.vt:=by omega
  have hj:j=fLo m.vc∨j=fHi m.vc:=by omega
  rcases hi with hi|hi<;>rcases hj with hj|hj<;>subst hi<;>subst hj<;>simp[h]
def Mo.le (g:Nat) (x y:Mo):Prop:=
 x.k=y.k∧x.a=y.a∧fOk x.vt y.vt=true∧fOk x.vc y.vc=true∧
 ((g=2∧x.c=y.c∧y.t≤x.t∧y.e≤x.e)∨
  (g=4∧x.t=y.t∧y.c≤x.c∧(25≤y.e∨(y.c=x.c∧x.e≤y.e)))∨
  (g=5∧x.c=y.c∧x.t≤y.t∧x.e≤y.e)∨
  (g=3∧x.t=y.t∧x.c≤y.c∧(25≤x.e∨(24≤x.e∧x.k<4))))
theorem Mo.le_adv {g:Nat} {x y:Mo} (h:Mo.le g x y) (cl:Nat):Mo.le g (x.adv cl) (y.adv cl):=by
 obtain⟨hk,ha,ht,hc,h⟩:=h
 have e1:=fOk_adv x.vt y.vt (if cl=0 then 2 else 1) (by split<;>simp) ht
 have e2:=fOk_adv x.vc y.vc (if cl=1 then 2 else 1) (by split<;>simp) hc
 refine⟨by simp only[Mo.adv,hk],by simp only[Mo.adv,ha],e1,e2,?_⟩
 simp only[Mo.adv,ha]
 have hd1:1≤(if cl=1 then 23 else 1):=by split<;>decide
 generalize (if cl=1 then 23 else 1)=d at*
 rcases h with⟨hg,h1,h2,h3⟩|⟨hg,h1,h2,h3⟩|⟨hg,h1,h2,h3⟩|⟨hg,h1,h2,h3⟩
 ·left;refine⟨hg,by rw[h1],by omega,?_⟩
  split<;>split<;>omega
 ·right;left;refine⟨hg,by rw[h1],by omega,?_⟩
  rcases h3 with h3|⟨h3,h4⟩
  ·left;split<;>omega
  ·right;refine⟨by rw[h3],?_⟩
   split<;>split<;>omega
 ·right;right;left;refine⟨hg,by rw[h1],by omega,?_⟩
  split<;>split<;>omega
 ·right;right;right;refine⟨hg,by rw[h1],by omega,?_⟩
  left;split<;>omega
theorem goal_cases (g o:Nat):goal g o=true↔(g=2∧o=2)∨(g=4∧o=4)∨(g=5∧(o=1∨o=4))∨(g=3∧(o=1∨o=2)):=by
 unfold goal
 by_cases h2:g=2
 ·subst h2;simp
 ·by_cases h4:g=4
  ·subst h4;simp
  ·by_cases h5:g=5
   ·subst h5;simp
   ·by_cases h3:g=3
    ·subst h3;simp
    ·simp[h2,h4,h5,h3]
theorem out_cases (m:Mo) (i j:Nat):
 (m.out i j=8∧m.k<4)∨
 (4≤m.k∧m.out i j=1∧(m.t+i+2)/3>1024+m.a∧(m.c+j+2)/3>1024+m.a)∨
 (4≤m.k∧m.out i j=2∧(m.t+i+2)/3<1024+m.a∧(m.t+i+2)/3<(m.c+j+2)/3)∨
 (4≤m.k∧m.out i j=4∧(m.c+j+2)/3+1<1024+m.a∧(m.c+j+2)/3+1<(m.t+i+2)/3∧(25≤m.e∨(m.c+j+2)/3+1<(4*m.c+m.e+11)/12))∨
 (4≤m.k∧m.out i j=8∧¬((m.t+i+2)/3>1024+m.a∧(m.c+j+2)/3>1024+m.a)∧¬((m.t+i+2)/3<1024+m.a∧(m.t+i+2)/3<(m.c+j+2)/3)∧
   ¬((m.c+j+2)/3+1<1024+m.a∧(m.c+j+2)/3+1<(m.t+i+2)/3∧(25≤m.e∨(m.c+j+2)/3+1<(4*m.c+m.e+11)/12))):=by
 unfold Mo.out
 by_cases h0:m.k<4
 ·left;exact⟨if_pos h0,h0⟩
 ·rw[if_neg h0]
  by_cases h1:(m.t+i+2)/3>1024+m.a∧(m.c+j+2)/3>1024+m.a
  ·right;left;exact⟨by omega,if_pos h1,h1⟩
  ·rw[if_neg h1]
   by_cases h2:(m.t+i+2)/3<1024+m.a∧(m.t+i+2)/3<(m.c+j+2)/3
   ·right;right;left;exact⟨by omega,if_pos h2,h2⟩
   ·rw[if_neg h2]
    by_cases h3:(m.c+j+2)/3+1<1024+m.a∧(m.c+j+2)/3+1<(m.t+i+2)/3∧(25≤m.e∨(m.c+j+2)/3+1<(4*m.c+m.e+11)/12)
    ·right;right;right;left;exact⟨by omega,if_pos h3,h3⟩
    ·right;right;right;right;exact⟨by omega,if_neg h3,h1,h2,h3⟩
theorem fin_cases (m:Mo) (i j:Nat):
 (m.fin i j=1∧1024+m.a≤(m.t+i+2)/3∧1024+m.a≤(m.c+j+2)/3)∨
 (m.fin i j=2∧¬(1024+m.a≤(m.t+i+2)/3∧1024+m.a≤(m.c+j+2)/3)∧(m.t+i+2)/3<(m.c+j+2)/3)∨
 (m.fin i j=4∧¬(1024+m.a≤(m.t+i+2)/3∧1024+m.a≤(m.c+j+2)/3)∧¬(m.t+i+2)/3<(m.c+j+2)/3):=by
 unfold Mo.fin
 by_cases h1:1024+m.a≤(m.t+i+2)/3∧1024+m.a≤(m.c+j+2)/3
 ·left;exact⟨if_pos h1,h1⟩
 ·rw[if_neg h1]
  by_cases h2:(m.t+i+2)/3<(m.c+j+2)/3
  ·right;left;exact⟨if_pos h2,h1,h2⟩
  ·right;right;exact⟨if_neg h2,h1,h2⟩
set_option maxHeartbeats 2000000 in
theorem Mo.le_out {g:Nat} {x y:Mo} (h:Mo.le g x y) (i j:Nat) (hi:i≤1) (hj:j≤1):
 (goal g (x.out i j)=true→goal g (y.out i j)=true)∧(x.out i j=8→y.out i j=8∨goal g (y.out i j)=true):=by
 obtain⟨hk,ha,-,-,h⟩:=h
 have ox:=out_cases x i j
 have oy:=out_cases y i j
 rw[←hk,←ha]at oy
 simp only[goal_cases]
 generalize x.out i j=o1 at*
 generalize y.out i j=o2 at*
 generalize x.k=k at*
 generalize x.a=a at*
 rcases h with⟨hg,h1,h2,h3⟩|⟨hg,h1,h2,h3⟩|⟨hg,h1,h2,h3⟩|⟨hg,h1,h2,h3⟩<;>subst hg<;>rw[←h1]at oy<;>constructor<;>intro ho<;>omega
theorem Mo.le_fin {g:Nat} {x y:Mo} (h:Mo.le g x y) (i j:Nat) (hi:i≤1) (hj:j≤1):goal g (x.fin i j)=true→goal g (y.fin i j)=true:=by
 obtain⟨hk,ha,-,-,h⟩:=h
 have ox:=fin_cases x i j
 have oy:=fin_cases y i j
 rw[←ha]at oy
 simp only[goal_cases]
 generalize x.fin i j=o1 at*
 generalize y.fin i j=o2 at*
 generalize x.a=a at*
 rcases h with⟨hg,h1,h2,h3⟩|⟨hg,h1,h2,h3⟩|⟨hg,h1,h2,h3⟩|⟨hg,h1,h2,h3⟩<;>subst hg<;>rw[←h1]at oy<;>intro ho<;>omega
theorem le_holds {g:Nat}:∀(v:List Nat) {x y:Mo},Mo.le g x y→Holds g x v→Holds g y v
 |[],x,y,h,hx=>by
  simp only[Holds,Mo.end,may_iff]at hx ⊢
  obtain⟨i,j,h1,h2,h3,h4,h5,h6,h7⟩:=hx
  obtain⟨hk,ha,ht,hc,hr⟩:=h
  exact⟨i,j,Nat.le_trans (fOk_lo _ _ ht) h1,Nat.le_trans h2 (fOk_hi _ _ ht),Nat.le_trans (fOk_lo _ _ hc) h3,Nat.le_trans h4 (fOk_hi _ _ hc),Mo.le_fin ⟨hk,ha,ht,hc,hr⟩ i j h6 h7 h5,h6,h7⟩
 |cl::v,x,y,h,hx=>by
  have h':=Mo.le_adv h cl
  obtain⟨hk,ha,ht,hc,hr⟩:=h'
  have hl:Mo.le g (x.adv cl) (y.adv cl):=⟨hk,ha,ht,hc,hr⟩
  simp only[Holds,Mo.hit,Mo.und,may_iff]at hx ⊢
  rcases hx with⟨i,j,h1,h2,h3,h4,h5,h6,h7⟩|⟨⟨i,j,h1,h2,h3,h4,h5,h6,h7⟩,h8⟩
  ·left
   exact⟨i,j,Nat.le_trans (fOk_lo _ _ ht) h1,Nat.le_trans h2 (fOk_hi _ _ ht),Nat.le_trans (fOk_lo _ _ hc) h3,Nat.le_trans h4 (fOk_hi _ _ hc),(Mo.le_out hl i j h6 h7).1 h5,h6,h7⟩
  ·rcases(Mo.le_out hl i j h6 h7).2 (by simpa using h5)with h9|h9
   ·right
    exact⟨⟨i,j,Nat.le_trans (fOk_lo _ _ ht) h1,Nat.le_trans h2 (fOk_hi _ _ ht),Nat.le_trans (fOk_lo _ _ hc) h3,Nat.le_trans h4 (fOk_hi _ _ hc),by simp[h9],h6,h7⟩,le_holds v hl h8⟩
   ·left
    exact⟨i,j,Nat.le_trans (fOk_lo _ _ ht) h1,Nat.le_trans h2 (fOk_hi _ _ ht),Nat.le_trans (fOk_lo _ _ hc) h3,Nat.le_trans h4 (fOk_hi _ _ hc),h9,h6,h7⟩
def remOf (x:Nat):Nat:=
 if xG x=0 then xT x else if xG x=2 then xT x+3-(3072+3*(x/64%2))else if xG x=4 then x/1048576%8192+3-(3072+3*(x/64%2))else 0
theorem rem_T:∀(v:List Nat) (m:Mo),m.a<2→Holds 2 m v→m.t+3≤v.length+(3072+3*m.a)
 |[],m,ha,h=>by
  simp only[Holds,Mo.end,may_iff]at h
  obtain⟨i,j,-,-,-,-,h,-,-⟩:=h
  have:=fin_cases m i j
  rw[goal_cases]at h
  simp only[List.length_nil]
  omega
 |cl::v,m,ha,h=>by
  have hA:(m.adv cl).t+3≤v.length+(3072+3*(m.adv cl).a):=by
   simp only[Holds]at h
   rcases h with h|⟨-,h⟩
   ·simp only[Mo.hit,may_iff]at h
    obtain⟨i,j,-,-,-,-,h,-,-⟩:=h
    have:=out_cases (m.adv cl) i j
    rw[goal_cases]at h
    omega
   ·exact rem_T v _ (by simp only[Mo.adv];omega) h
  simp only[Mo.adv,moA]at hA
  simp only[List.length_cons]
  split at hA<;>split at hA<;>omega
theorem rem_C:∀(v:List Nat) (m:Mo),m.a<2→Holds 4 m v→m.c+3≤v.length+(3072+3*m.a)
 |[],m,ha,h=>by
  simp only[Holds,Mo.end,may_iff]at h
  obtain⟨i,j,-,-,-,-,h,-,-⟩:=h
  have:=fin_cases m i j
  rw[goal_cases]at h
  simp only[List.length_nil]
  omega
 |cl::v,m,ha,h=>by
  have hA:(m.adv cl).c+3≤v.length+(3072+3*(m.adv cl).a):=by
   simp only[Holds]at h
   rcases h with h|⟨-,h⟩
   ·simp only[Mo.hit,may_iff]at h
    obtain⟨i,j,-,-,-,-,h,-,-⟩:=h
    have:=out_cases (m.adv cl) i j
    rw[goal_cases]at h
    omega
   ·exact rem_C v _ (by simp only[Mo.adv];omega) h
  simp only[Mo.adv,moA]at hA
  simp only[List.length_cons]
  split at hA<;>split at hA<;>omega
theorem rem_ok (x:Nat) (v:List Nat) (h:H x v):remOf x≤v.length:=by
 unfold H at h;unfold remOf
 split
 ·rename_i h0;rw[if_pos h0]at h;exact h
 ·rename_i h0;rw[if_neg h0]at h
  split
  ·rename_i h2;rw[h2]at h
   have:=rem_T v (xMo x) (by simp only[xMo];omega) h
   simp only[xMo]at this
   unfold xT;omega
  ·split
   ·rename_i h4;rw[h4]at h
    have:=rem_C v (xMo x) (by simp only[xMo];omega) h
    simp only[xMo]at this
    omega
   ·omega
def imp (x y:Nat):Bool:=
 if xG y=0 then Nat.ble (xT y) (remOf x)
 else xG x==xG y&&(x/8%16==y/8%16)&&fOk (x/274877906944%256) (y/274877906944%256)&&fOk (x/70368744177664) (y/70368744177664)&&
  (if xG y=2 then(x/1048576%8192==y/1048576%8192)&&Nat.ble (xT y) (xT x)&&Nat.ble (y/8589934592%32) (x/8589934592%32)
   else if xG y=4 then xT x==xT y&&Nat.ble (y/1048576%8192) (x/1048576%8192)&&(Nat.ble 25 (y/8589934592%32)||((y/1048576%8192==x/1048576%8192)&&Nat.ble (x/8589934592%32) (y/8589934592%32)))
   else if xG y=5 then(x/1048576%8192==y/1048576%8192)&&Nat.ble (xT x) (xT y)&&Nat.ble (x/8589934592%32) (y/8589934592%32)
   else if xG y=3 then xT x==xT y&&Nat.ble (x/1048576%8192) (y/1048576%8192)&&(Nat.ble 25 (x/8589934592%32)||(Nat.ble 24 (x/8589934592%32)&&Nat.blt (x/8%8) 4))
   else false)
theorem imp_ok (x y:Nat) (v:List Nat) (h:imp x y=true) (hx:H x v):H y v:=by
 unfold imp at h
 by_cases h0:xG y=0
 ·rw[if_pos h0]at h
  have:=rem_ok x v hx
  rw[Nat.ble_eq]at h
  unfold H;rw[if_pos h0];omega
 ·rw[if_neg h0]at h
  simp only[Bool.and_eq_true,beq_iff_eq]at h
  obtain⟨⟨⟨⟨hg,hka⟩,ht⟩,hc⟩,hr⟩:=h
  unfold H at hx ⊢
  rw[if_neg h0];rw[if_neg (by omega),hg]at hx
  refine le_holds v ?_ hx
  refine⟨by simp only[xMo];omega,by simp only[xMo];omega,ht,hc,?_⟩
  simp only[xMo]
  by_cases h2:xG y=2
  ·rw[if_pos h2]at hr
   simp only[Bool.and_eq_true,beq_iff_eq,Nat.ble_eq]at hr
   left;exact⟨h2,hr.1.1,hr.1.2,hr.2⟩
  ·rw[if_neg h2]at hr
   by_cases h4:xG y=4
   ·rw[if_pos h4]at hr
    simp only[Bool.and_eq_true,Bool.or_eq_true,beq_iff_eq,Nat.ble_eq]at hr
    right;left;exact⟨h4,hr.1.1,hr.1.2,hr.2⟩
   ·rw[if_neg h4]at hr
    by_cases h5:xG y=5
    ·rw[if_pos h5]at hr
     simp only[Bool.and_eq_true,beq_iff_eq,Nat.ble_eq]at hr
     right;right;left;exact⟨h5,hr.1.1,hr.1.2,hr.2⟩
    ·rw[if_neg h5]at hr
     by_cases h3:xG y=3
     ·rw[if_pos h3]at hr
      simp only[Bool.and_eq_true,Bool.or_eq_true,beq_iff_eq,Nat.ble_eq,Nat.blt_eq]at hr
      right;right;right;exact⟨h3,hr.1.1,hr.1.2,hr.2⟩
     ·rw[if_neg h3]at hr;exact absurd hr (by decide)
def mA:Mo:=⟨0,0,3075,3075,0,2,2⟩
def mT:Mo:=⟨0,0,3069,3075,0,1,3⟩
def mC:Mo:=⟨0,0,3075,3069,24,3,1⟩
def tv (cl:Nat):Nat:=if cl=0 then 2 else 1
def cv (cl:Nat):Nat:=if cl=1 then 2 else 1
def twoD (cl:Nat) (v:List Nat):Prop:=cl=2∧v.head? =some 2
inductive Run:Nat→List Nat→Nat→Prop
 |nil:Run 0 [] 0
 |pair {v n}:Run 0 v n→Run 0 (2::2::v) (n+1)
 |stay {cl v n}:¬twoD cl v→Run 0 v n→Run 0 (cl::v) (n+1)
 |toT {cl v n}:¬twoD cl v→Holds 2 mA (cl::v)→Run 8 (cl::v) n→Run 0 (cl::v) (n+1)
 |toC {cl v n}:¬twoD cl v→Holds 4 mA (cl::v)→Run 16 (cl::v) n→Run 0 (cl::v) (n+1)
 |tEnd {s}:s<3→Run (8+s) [] (s+1)
 |tMid {s cl v n}:s<3→(s+tv cl)%3≠0→Run (8+(s+tv cl)%3) v n→Run (8+s) (cl::v) (n+2*((s+tv cl)/3))
 |tStay {s cl v n}:s<3→(s+tv cl)%3=0→Holds 2 mT v→Run 8 v n→Run (8+s) (cl::v) (n+2*((s+tv cl)/3))
 |tExit {s cl v n}:s<3→(s+tv cl)%3=0→Holds 5 mT v→Run 0 v n→Run (8+s) (cl::v) (n+1+2*((s+tv cl)/3))
 |cEnd {s}:s<3→Run (16+s) [] (s+1)
 |cMid {s cl v n}:s<3→(s+cv cl)%3≠0→Run (16+(s+cv cl)%3) v n→Run (16+s) (cl::v) (n+2*((s+cv cl)/3))
 |cStay {s cl v n}:s<3→(s+cv cl)%3=0→Holds 4 mC v→Run 16 v n→Run (16+s) (cl::v) (n+2*((s+cv cl)/3))
 |cExit {s cl v n}:s<3→(s+cv cl)%3=0→Holds 3 mC v→Run 0 v n→Run (16+s) (cl::v) (n+1+2*((s+cv cl)/3))
def RunK (key:Nat) (v:List Nat) (n:Nat):Prop:=
 if key=1 then ∃v',v=2::v'∧Run 0 v' n
 else if key=2 then v.head? ≠some 2∧Run 0 v n
 else if key=12 then v.head? ≠some 2∧Run 9 v n
 else if key=20 then v.head? ≠some 2∧Run 17 v n
 else Run key v n
def sb (key:Nat):Nat:=if key<8 then 0 else key%8%3
def Clm (key:Nat) (ms:List Nat) (d:Nat) (v:List Nat):Prop:=
 ∀n,(∀c∈v,c<4)→RunK key v n→(∀m∈ms,H m v)→d<4095∧300*n+d≤386*v.length+200*sb key+1000
structure Mv where
 key:Nat
 gain:Nat
 pre:Nat
 post:Nat
 cl:Nat
def pA2:Nat:=141290468934018
def pA4:Nat:=141290468934020
def pT2:Nat:=211384335203970
def pT5:Nat:=211384335203973
def pC4:Nat:=71402754802052
def pC3:Nat:=71402754802051
theorem H_pA2 (v:List Nat):H pA2 v↔Holds 2 mA v:=by
 unfold H;rw[if_neg (by decide),show xG pA2=2 from by decide,show xMo pA2=mA from by kernel_rfl]
theorem H_pA4 (v:List Nat):H pA4 v↔Holds 4 mA v:=by
 unfold H;rw[if_neg (by decide),show xG pA4=4 from by decide,show xMo pA4=mA from by kernel_rfl]
theorem H_pT2 (v:List Nat):H pT2 v↔Holds 2 mT v:=by
 unfold H;rw[if_neg (by decide),show xG pT2=2 from by decide,show xMo pT2=mT from by kernel_rfl]
theorem H_pT5 (v:List Nat):H pT5 v↔Holds 5 mT v:=by
 unfold H;rw[if_neg (by decide),show xG pT5=5 from by decide,show xMo pT5=mT from by kernel_rfl]
theorem H_pC4 (v:List Nat):H pC4 v↔Holds 4 mC v:=by
 unfold H;rw[if_neg (by decide),show xG pC4=4 from by decide,show xMo pC4=mC from by kernel_rfl]
theorem H_pC3 (v:List Nat):H pC3 v↔Holds 3 mC v:=by
 unfold H;rw[if_neg (by decide),show xG pC3=3 from by decide,show xMo pC3=mC from by kernel_rfl]
def mvS (b s val stay leave cl:Nat):List Mv:=
 if (s+val)%3=0 then[⟨b,614+600*((s+val)/3)-200*s,0,stay,cl⟩,⟨0,914+600*((s+val)/3)-200*s,0,leave,cl⟩]
 else[⟨b+(s+val)%3,614+600*((s+val)/3)+200*((s+val)%3)-200*s,0,0,cl⟩]
def mvT (s cl:Nat):List Mv:=mvS 8 s (tv cl) pT2 pT5 cl
def mvC (s cl:Nat):List Mv:=mvS 16 s (cv cl) pC4 pC3 cl
def mvA (cl:Nat):List Mv:=[⟨0,914,0,0,cl⟩,⟨8+tv cl,914+200*tv cl,pA2,0,cl⟩,⟨16+cv cl,914+200*cv cl,pA4,0,cl⟩]
def mvD:List Mv:=[⟨1,914,0,0,2⟩,⟨2,914,0,0,2⟩,⟨12,1114,pA2,0,2⟩,⟨20,1114,pA4,0,2⟩]
def mv (key:Nat):List Mv:=
 if key=0 then mvA 0++(mvA 1++(mvD++mvA 3))
 else if key=1 then[⟨0,614,0,0,2⟩]
 else if key=2 then mvA 0++(mvA 1++mvA 3)
 else if key=12 then mvT 1 0++(mvT 1 1++mvT 1 3)
 else if key=20 then mvC 1 0++(mvC 1 1++mvC 1 3)
 else if key<12 then mvT (key-8) 0++(mvT (key-8) 1++(mvT (key-8) 2++mvT (key-8) 3))
 else mvC (key-16) 0++(mvC (key-16) 1++(mvC (key-16) 2++mvC (key-16) 3))
def okKey (key:Nat):Prop:=key=0∨key=1∨key=2∨key=8∨key=9∨key=10∨key=12∨key=16∨key=17∨key=18∨key=20
def Mv.says (p:Mv) (key cl:Nat) (v:List Nat) (n:Nat):Prop:=
 p.cl=cl∧okKey p.key∧(∃n',RunK p.key v n'∧300*n+200*sb p.key+1000≤300*n'+p.gain+386+200*sb key)∧(p.pre=0∨H p.pre (cl::v))∧(p.post=0∨H p.post v)
theorem mvT_ok (s cl:Nat) (v:List Nat) (n:Nat) (hs:s<3) (hc:cl<4) (h:Run (8+s) (cl::v) n):∃p∈mvT s cl,p.says (8+s) cl v n:=by
 have hb:∀t,t<3→sb (8+t)=t:=by intro t ht;unfold sb;rw[if_neg (by omega)];omega
 have hr:∀t,t<3→∀m,RunK (8+t) v m↔Run (8+t) v m:=by
  intro t ht m;unfold RunK;rw[if_neg (by omega),if_neg (by omega),if_neg (by omega),if_neg (by omega)]
 have ht1:tv cl=1∨tv cl=2:=by unfold tv;split<;>simp
 generalize hk:8+s=key at h
 generalize hl:cl::v=l at h
 cases h with
 |nil=>omega
 |pair=>omega
 |stay=>omega
 |toT=>omega
 |toC=>omega
 |tEnd=>cases hl
 |cEnd=>cases hl
 | @tMid s' cl' v' n' h1 h2 h3=>
   obtain rfl:s=s':=by omega
   cases hl
   refine⟨⟨8+(s+tv cl)%3,614+600*((s+tv cl)/3)+200*((s+tv cl)%3)-200*s,0,0,cl⟩,?_,rfl,?_,⟨n',(hr _ (by omega) _).2 h3,?_⟩,Or.inl rfl,Or.inl rfl⟩
   ·simp only[mvT,mvS,if_neg h2];exact List.mem_singleton.2 rfl
   ·unfold okKey;simp only;omega
   ·rw[←hk,hb _ hs];simp only;rw[hb _ (by omega)];omega
 | @tStay s' cl' v' n' h1 h2 h3 h4=>
   obtain rfl:s=s':=by omega
   cases hl
   refine⟨⟨8,614+600*((s+tv cl)/3)-200*s,0,pT2,cl⟩,?_,rfl,?_,⟨n',(hr 0 (by omega) _).2 h4,?_⟩,Or.inl rfl,Or.inr ((H_pT2 v).2 h3)⟩
   ·simp only[mvT,mvS,if_pos h2];simp
   ·unfold okKey;simp
   ·rw[←hk,hb _ hs];simp only;rw[show sb 8=0 from rfl];omega
 | @tExit s' cl' v' n' h1 h2 h3 h4=>
   obtain rfl:s=s':=by omega
   cases hl
   refine⟨⟨0,914+600*((s+tv cl)/3)-200*s,0,pT5,cl⟩,?_,rfl,?_,⟨n',?_,?_⟩,Or.inl rfl,Or.inr ((H_pT5 v).2 h3)⟩
   ·simp only[mvT,mvS,if_pos h2];simp
   ·unfold okKey;simp
   ·simpa[RunK]using h4
   ·rw[←hk,hb _ hs];simp only;rw[show sb 0=0 from rfl];omega
 | @cMid s' cl' v' n' h1 h2 h3=>omega
 | @cStay s' cl' v' n' h1 h2 h3 h4=>omega
 | @cExit s' cl' v' n' h1 h2 h3 h4=>omega
theorem mvC_ok (s cl:Nat) (v:List Nat) (n:Nat) (hs:s<3) (hc:cl<4) (h:Run (16+s) (cl::v) n):∃p∈mvC s cl,p.says (16+s) cl v n:=by
 have hb:∀t,t<3→sb (16+t)=t:=by intro t ht;unfold sb;rw[if_neg (by omega)];omega
 have hr:∀t,t<3→∀m,RunK (16+t) v m↔Run (16+t) v m:=by
  intro t ht m;unfold RunK;rw[if_neg (by omega),if_neg (by omega),if_neg (by omega),if_neg (by omega)]
 have ht1:cv cl=1∨cv cl=2:=by unfold cv;split<;>simp
 generalize hk:16+s=key at h
 generalize hl:cl::v=l at h
 cases h with
 |nil=>omega
 |pair=>omega
 |stay=>omega
 |toT=>omega
 |toC=>omega
 |tEnd=>cases hl
 |cEnd=>cases hl
 | @cMid s' cl' v' n' h1 h2 h3=>
   obtain rfl:s=s':=by omega
   cases hl
   refine⟨⟨16+(s+cv cl)%3,614+600*((s+cv cl)/3)+200*((s+cv cl)%3)-200*s,0,0,cl⟩,?_,rfl,?_,⟨n',(hr _ (by omega) _).2 h3,?_⟩,Or.inl rfl,Or.inl rfl⟩
   ·simp only[mvC,mvS,if_neg h2];exact List.mem_singleton.2 rfl
   ·unfold okKey;simp only;omega
   ·rw[←hk,hb _ hs];simp only;rw[hb _ (by omega)];omega
 | @cStay s' cl' v' n' h1 h2 h3 h4=>
   obtain rfl:s=s':=by omega
   cases hl
   refine⟨⟨16,614+600*((s+cv cl)/3)-200*s,0,pC4,cl⟩,?_,rfl,?_,⟨n',(hr 0 (by omega) _).2 h4,?_⟩,Or.inl rfl,Or.inr ((H_pC4 v).2 h3)⟩
   ·simp only[mvC,mvS,if_pos h2];simp
   ·unfold okKey;simp
   ·rw[←hk,hb _ hs];simp only;rw[show sb 16=0 from rfl];omega
 | @cExit s' cl' v' n' h1 h2 h3 h4=>
   obtain rfl:s=s':=by omega
   cases hl
   refine⟨⟨0,914+600*((s+cv cl)/3)-200*s,0,pC3,cl⟩,?_,rfl,?_,⟨n',?_,?_⟩,Or.inl rfl,Or.inr ((H_pC3 v).2 h3)⟩
   ·simp only[mvC,mvS,if_pos h2];simp
   ·unfold okKey;simp
   ·simpa[RunK]using h4
   ·rw[←hk,hb _ hs];simp only;rw[show sb 0=0 from rfl];omega
 | @tMid s' cl' v' n' h1 h2 h3=>omega
 | @tStay s' cl' v' n' h1 h2 h3 h4=>omega
 | @tExit s' cl' v' n' h1 h2 h3 h4=>omega
theorem run8 (cl:Nat) (v:List Nat) (n:Nat) (h:Run 8 (cl::v) n):Run (8+tv cl) v n:=by
 have ht1:tv cl=1∨tv cl=2:=by unfold tv;split<;>simp
 generalize hk:8=key at h
 generalize hl:cl::v=l at h
 cases h with
 |nil=>omega
 |pair=>omega
 |stay=>omega
 |toT=>omega
 |toC=>omega
 |tEnd=>cases hl
 |cEnd=>cases hl
 | @tMid s' cl' v' n' h1 h2 h3=>
   obtain rfl:0=s':=by omega
   cases hl
   have e:(0+tv cl)%3=tv cl:=by omega
   have e2:(0+tv cl)/3=0:=by omega
   rw[e]at h3;rw[e2];exact h3
 | @tStay s' cl' v' n' h1 h2 h3 h4=>cases hl;omega
 | @tExit s' cl' v' n' h1 h2 h3 h4=>cases hl;omega
 | @cMid s' cl' v' n' h1 h2 h3=>omega
 | @cStay s' cl' v' n' h1 h2 h3 h4=>omega
 | @cExit s' cl' v' n' h1 h2 h3 h4=>omega
theorem run16 (cl:Nat) (v:List Nat) (n:Nat) (h:Run 16 (cl::v) n):Run (16+cv cl) v n:=by
 have ht1:cv cl=1∨cv cl=2:=by unfold cv;split<;>simp
 generalize hk:16=key at h
 generalize hl:cl::v=l at h
 cases h with
 |nil=>omega
 |pair=>omega
 |stay=>omega
 |toT=>omega
 |toC=>omega
 |tEnd=>cases hl
 |cEnd=>cases hl
 | @cMid s' cl' v' n' h1 h2 h3=>
   obtain rfl:0=s':=by omega
   cases hl
   have e:(0+cv cl)%3=cv cl:=by omega
   have e2:(0+cv cl)/3=0:=by omega
   rw[e]at h3;rw[e2];exact h3
 | @cStay s' cl' v' n' h1 h2 h3 h4=>cases hl;omega
 | @cExit s' cl' v' n' h1 h2 h3 h4=>cases hl;omega
 | @tMid s' cl' v' n' h1 h2 h3=>omega
 | @tStay s' cl' v' n' h1 h2 h3 h4=>omega
 | @tExit s' cl' v' n' h1 h2 h3 h4=>omega
theorem runK_seg (key:Nat) (v:List Nat) (n:Nat) (h:8≤key) (h12:key≠12) (h20:key≠20):RunK key v n↔Run key v n:=by
 unfold RunK;rw[if_neg (by omega),if_neg (by omega),if_neg h12,if_neg h20]
theorem mvA_ok (cl:Nat) (v:List Nat) (n:Nat) (hc:cl<4) (hd:cl≠2) (h:Run 0 (cl::v) n):∃p∈mvA cl,p.says 0 cl v n∧p.says 2 cl v n:=by
 have t1:tv cl=1∨tv cl=2:=by unfold tv;split<;>simp
 have c1:cv cl=1∨cv cl=2:=by unfold cv;split<;>simp
 have sT:sb (8+tv cl)=tv cl:=by unfold sb;rw[if_neg (by omega)];omega
 have sC:sb (16+cv cl)=cv cl:=by unfold sb;rw[if_neg (by omega)];omega
 generalize hk:0=key at h
 generalize hl:cl::v=l at h
 cases h with
 |nil=>cases hl
 |pair=>cases hl;omega
 | @stay cl' v' n' h1 h2=>
   cases hl
   refine⟨⟨0,914,0,0,cl⟩,by simp[mvA],?_⟩
   constructor<;>refine⟨rfl,Or.inl rfl,⟨n',by simpa[RunK]using h2,?_⟩,Or.inl rfl,Or.inl rfl⟩<;>simp[sb]<;>omega
 | @toT cl' v' n' h1 h2 h3=>
   cases hl
   have h4:=run8 _ _ _ h3
   refine⟨⟨8+tv cl,914+200*tv cl,pA2,0,cl⟩,by simp[mvA],?_⟩
   constructor<;>refine⟨rfl,by unfold okKey;simp only;omega,⟨n',(runK_seg _ _ _ (by simp only;omega) (by simp only;omega) (by simp only;omega)).2 h4,?_⟩,Or.inr ((H_pA2 _).2 h2),Or.inl rfl⟩<;>simp only[sT]<;>simp[sb]<;>omega
 | @toC cl' v' n' h1 h2 h3=>
   cases hl
   have h4:=run16 _ _ _ h3
   refine⟨⟨16+cv cl,914+200*cv cl,pA4,0,cl⟩,by simp[mvA],?_⟩
   constructor<;>refine⟨rfl,by unfold okKey;simp only;omega,⟨n',(runK_seg _ _ _ (by simp only;omega) (by simp only;omega) (by simp only;omega)).2 h4,?_⟩,Or.inr ((H_pA4 _).2 h2),Or.inl rfl⟩<;>simp only[sC]<;>simp[sb]<;>omega
 |tEnd=>cases hl
 |cEnd=>cases hl
 |tMid=>omega
 |tStay=>omega
 |tExit=>omega
 |cMid=>omega
 |cStay=>omega
 |cExit=>omega
theorem mvD_ok (v:List Nat) (n:Nat) (h:Run 0 (2::v) n):∃p∈mvD,p.says 0 2 v n:=by
 generalize hk:0=key at h
 generalize hl:2::v=l at h
 cases h with
 |nil=>cases hl
 | @pair v' n' h1=>
   cases hl
   exact⟨⟨1,914,0,0,2⟩,by simp[mvD],rfl,Or.inr (Or.inl rfl),⟨n',by simp[RunK];exact h1,by simp[sb];omega⟩,Or.inl rfl,Or.inl rfl⟩
 | @stay cl' v' n' h1 h2=>
   cases hl
   have h5:v.head? ≠some 2:=fun h=>h1 ⟨rfl,h⟩
   exact⟨⟨2,914,0,0,2⟩,by simp[mvD],rfl,Or.inr (Or.inr (Or.inl rfl)),⟨n',by simp[RunK];exact⟨h5,h2⟩,by simp[sb];omega⟩,Or.inl rfl,Or.inl rfl⟩
 | @toT cl' v' n' h1 h2 h3=>
   cases hl
   have h5:v.head? ≠some 2:=fun h=>h1 ⟨rfl,h⟩
   have h4:=run8 _ _ _ h3
   exact⟨⟨12,1114,pA2,0,2⟩,by simp[mvD],rfl,by unfold okKey;simp,⟨n',by simp[RunK];exact⟨h5,h4⟩,by simp[sb];omega⟩,Or.inr ((H_pA2 _).2 h2),Or.inl rfl⟩
 | @toC cl' v' n' h1 h2 h3=>
   cases hl
   have h5:v.head? ≠some 2:=fun h=>h1 ⟨rfl,h⟩
   have h4:=run16 _ _ _ h3
   exact⟨⟨20,1114,pA4,0,2⟩,by simp[mvD],rfl,by unfold okKey;simp,⟨n',by simp[RunK];exact⟨h5,h4⟩,by simp[sb];omega⟩,Or.inr ((H_pA4 _).2 h2),Or.inl rfl⟩
 |tEnd=>cases hl
 |cEnd=>cases hl
 |tMid=>omega
 |tStay=>omega
 |tExit=>omega
 |cMid=>omega
 |cStay=>omega
 |cExit=>omega
theorem mv_ok (key cl:Nat) (v:List Nat) (n:Nat) (hk:okKey key) (hc:cl<4) (h:RunK key (cl::v) n):∃p∈mv key,p.says key cl v n:=by
 have hcl:cl=0∨cl=1∨cl=2∨cl=3:=by omega
 rcases hk with rfl|rfl|rfl|rfl|rfl|rfl|rfl|rfl|rfl|rfl|rfl
 ·have h0:Run 0 (cl::v) n:=by simpa[RunK]using h
  rcases hcl with rfl|rfl|rfl|rfl
  ·obtain⟨p,hp,h,-⟩:=mvA_ok 0 v n (by decide) (by decide) h0;exact⟨p,by simp[mv,hp],h⟩
  ·obtain⟨p,hp,h,-⟩:=mvA_ok 1 v n (by decide) (by decide) h0;exact⟨p,by simp[mv,hp],h⟩
  ·obtain⟨p,hp,h⟩:=mvD_ok v n h0;exact⟨p,by simp[mv,hp],h⟩
  ·obtain⟨p,hp,h,-⟩:=mvA_ok 3 v n (by decide) (by decide) h0;exact⟨p,by simp[mv,hp],h⟩
 ·simp only[RunK,if_true]at h
  obtain⟨v',hv,h⟩:=h
  cases hv
  exact⟨⟨0,614,0,0,2⟩,by simp[mv],rfl,Or.inl rfl,⟨n,by simpa[RunK]using h,by simp[sb]<;>omega⟩,Or.inl rfl,Or.inl rfl⟩
 ·have h0:cl≠2∧Run 0 (cl::v) n:=by simpa[RunK]using h
  rcases hcl with rfl|rfl|rfl|rfl
  ·obtain⟨p,hp,-,h⟩:=mvA_ok 0 v n (by decide) (by decide) h0.2;exact⟨p,by simp[mv,hp],h⟩
  ·obtain⟨p,hp,-,h⟩:=mvA_ok 1 v n (by decide) (by decide) h0.2;exact⟨p,by simp[mv,hp],h⟩
  ·exact absurd rfl h0.1
  ·obtain⟨p,hp,-,h⟩:=mvA_ok 3 v n (by decide) (by decide) h0.2;exact⟨p,by simp[mv,hp],h⟩
 ·obtain⟨p,hp,h⟩:=mvT_ok 0 cl v n (by decide) hc ((runK_seg 8 _ _ (by decide) (by decide) (by decide)).1 h)
  refine⟨p,?_,h⟩
  rcases hcl with rfl|rfl|rfl|rfl<;>simp[mv,hp]
 ·obtain⟨p,hp,h⟩:=mvT_ok 1 cl v n (by decide) hc ((runK_seg 9 _ _ (by decide) (by decide) (by decide)).1 h)
  refine⟨p,?_,h⟩
  rcases hcl with rfl|rfl|rfl|rfl<;>simp[mv,hp]
 ·obtain⟨p,hp,h⟩:=mvT_ok 2 cl v n (by decide) hc ((runK_seg 10 _ _ (by decide) (by decide) (by decide)).1 h)
  refine⟨p,?_,h⟩
  rcases hcl with rfl|rfl|rfl|rfl<;>simp[mv,hp]
 ·have h0:cl≠2∧Run 9 (cl::v) n:=by simpa[RunK]using h
  obtain⟨p,hp,h⟩:=mvT_ok 1 cl v n (by decide) hc h0.2
  refine⟨p,?_,h.1,h.2.1,?_,h.2.2.2⟩
  ·rcases hcl with rfl|rfl|rfl|rfl
   ·simp[mv,hp]
   ·simp[mv,hp]
   ·exact absurd rfl h0.1
   ·simp[mv,hp]
  ·exact h.2.2.1
 ·obtain⟨p,hp,h⟩:=mvC_ok 0 cl v n (by decide) hc ((runK_seg 16 _ _ (by decide) (by decide) (by decide)).1 h)
  refine⟨p,?_,h⟩
  rcases hcl with rfl|rfl|rfl|rfl<;>simp[mv,hp]
 ·obtain⟨p,hp,h⟩:=mvC_ok 1 cl v n (by decide) hc ((runK_seg 17 _ _ (by decide) (by decide) (by decide)).1 h)
  refine⟨p,?_,h⟩
  rcases hcl with rfl|rfl|rfl|rfl<;>simp[mv,hp]
 ·obtain⟨p,hp,h⟩:=mvC_ok 2 cl v n (by decide) hc ((runK_seg 18 _ _ (by decide) (by decide) (by decide)).1 h)
  refine⟨p,?_,h⟩
  rcases hcl with rfl|rfl|rfl|rfl<;>simp[mv,hp]
 ·have h0:cl≠2∧Run 17 (cl::v) n:=by simpa[RunK]using h
  obtain⟨p,hp,h⟩:=mvC_ok 1 cl v n (by decide) hc h0.2
  refine⟨p,?_,h.1,h.2.1,?_,h.2.2.2⟩
  ·rcases hcl with rfl|rfl|rfl|rfl
   ·simp[mv,hp]
   ·simp[mv,hp]
   ·exact absurd rfl h0.1
   ·simp[mv,hp]
  ·exact h.2.2.1
end Go.Proofs.YtcnallabiffemaaGreatDoor
