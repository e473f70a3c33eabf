/- The check of a table of promises; a checked table is true. -/
import Derived.Test.YtcnallabiffemaaGreatDoorZp
set_option linter.unusedVariables false
set_option linter.unusedSimpArgs false
namespace Go.Proofs.YtcnallabiffemaaGreatDoor
def fc (x:Nat) (k:Nat→Nat):Nat:=Nat.rec (motive:=fun _=>Nat) 0 (fun n _=>k n) (Nat.add x 1)
theorem fc_eq (x:Nat) (k:Nat→Nat):fc x k=k x:=rfl
def fb (x:Nat) (k:Nat→Bool):Bool:=Nat.rec (motive:=fun _=>Bool) false (fun n _=>k n) (Nat.add x 1)
theorem fb_eq (x:Nat) (k:Nat→Bool):fb x k=k x:=rfl
theorem beq_false {a b:Nat} (h:a≠b):Nat.beq a b=false:=by
 cases hb:Nat.beq a b with
 |false=>rfl
 |true=>exact absurd (Nat.eq_of_beq_eq_true hb) h
def oneOut (A t c k e i j:Nat):Nat:=
 fc (Nat.div (Nat.add (Nat.add t i) 2) 3) fun T=>fc (Nat.div (Nat.add (Nat.add c j) 2) 3) fun C=>
 bif Nat.blt k 4 then 8 else
 bif Nat.blt A T&&Nat.blt A C then 1 else
 bif Nat.blt T A&&Nat.blt T C then 2 else
 bif Nat.blt (Nat.add C 1) A&&(Nat.blt (Nat.add C 1) T&&(Nat.ble 25 e||Nat.blt (Nat.add C 1) (Nat.div (Nat.add (Nat.add (Nat.mul 4 c) e) 11) 12)))then 4 else 8
theorem oneOut_eq (m:Mo) (i j:Nat):oneOut (1024+m.a) m.t m.c m.k m.e i j=m.out i j:=by
 simp only[oneOut,fc_eq,Mo.out,Bool.cond_eq_ite,Bool.and_eq_true,Bool.or_eq_true,Nat.blt_eq,Nat.ble_eq]
 rfl
theorem bz (a b:Nat):(Nat.beq a b=true)=(a=b):=propext ⟨fun h=>Nat.eq_of_beq_eq_true h,fun h=>by subst h;exact Nat.beq_refl a⟩
theorem bq {α:Type} (a b:Nat) (p q:α):(bif Nat.beq a b then p else q)=if a=b then p else q:=by
 by_cases h:a=b
 ·rw[if_pos h,show Nat.beq a b=true from by rw[bz];exact h];rfl
 ·rw[if_neg h,beq_false h];rfl
theorem bl {α:Type} (a b:Nat) (p q:α):(bif Nat.ble a b then p else q)=if a≤b then p else q:=by
 by_cases h:a≤b
 ·rw[if_pos h,Nat.ble_eq_true_of_le h];rfl
 ·rw[if_neg h]
  cases hb:Nat.ble a b with
  |false=>rfl
  |true=>exact absurd (Nat.le_of_ble_eq_true hb) h
theorem bt {α:Type} (a b:Nat) (p q:α):(bif Nat.blt a b then p else q)=if a<b then p else q:=bl (a+1) b p q
def fAdvF (x w:Nat):Nat:=
 bif Nat.beq x 0 then 0 else bif Nat.ble 128 x then(bif Nat.ble (Nat.add 128 w) x then Nat.sub x w else 0)else bif Nat.beq w 2 then Nat.mod (Nat.div (fRow x) 256) 256 else Nat.mod (fRow x) 256
theorem fAdvF_eq (x w:Nat):fAdvF x w=fAdv x w:=by
 unfold fAdvF fAdv;rw[bq,bl,bl,bq];rfl
def fOffF (x:Nat):Nat:=bif Nat.ble 128 x then 0 else Nat.mod (Nat.div (fRow x) 65536) 2
theorem fLoF_eq (x:Nat):(bif Nat.beq x 0 then 0 else fOffF x)=fLo x:=by
 unfold fOffF fLo;rw[bq,bl];rfl
theorem fHiF_eq (x:Nat):(bif Nat.beq x 0 then 1 else fOffF x)=fHi x:=by
 unfold fOffF fHi;rw[bq,bl];rfl
def fOkF (x y:Nat):Bool:=bif Nat.beq y x then true else bif Nat.beq y 0 then true else bif Nat.ble 128 y then Nat.ble (Nat.sub y 127) (bif Nat.beq x 0 then 0 else bif Nat.ble 128 x then Nat.sub x 127 else Nat.div (fRow x) 131072)else false
theorem fOkF_ok (x y:Nat) (h:fOkF x y=true):fOk x y=true:=by
 have e:(bif Nat.beq x 0 then 0 else bif Nat.ble 128 x then Nat.sub x 127 else Nat.div (fRow x) 131072)=fSafe x:=by
  unfold fSafe;rw[bq,bl];rfl
 unfold fOkF at h;rw[e,bq,bq,bl]at h
 simp only[fOk,Bool.or_eq_true,Bool.and_eq_true,beq_iff_eq,Nat.ble_eq]
 split at h
 ·rename_i h1;left;right;exact h1
 ·split at h
  ·rename_i h1;left;left;exact h1
  ·split at h
   ·rename_i h1;right;exact⟨h1,Nat.le_of_ble_eq_true h⟩
   ·cases h
def maskF (A t c k e vt vc:Nat):Nat:=
 bif Nat.blt k 4 then 8 else
 fc (bif Nat.beq vt 0 then 0 else fOffF vt) fun i0=>fc (bif Nat.beq vt 0 then 1 else fOffF vt) fun i1=>fc (bif Nat.beq vc 0 then 0 else fOffF vc) fun j0=>fc (bif Nat.beq vc 0 then 1 else fOffF vc) fun j1=>
 bif Nat.beq i0 i1&&Nat.beq j0 j1 then oneOut A t c k e i0 j0 else
 Nat.lor (Nat.lor (oneOut A t c k e i0 j0) (oneOut A t c k e i1 j0)) (Nat.lor (oneOut A t c k e i0 j1) (oneOut A t c k e i1 j1))
def xEncF (g:Nat) (m:Mo):Nat:=Nat.add g (Nat.mul 8 (Nat.add m.k (Nat.mul 8 (Nat.add m.a (Nat.mul 2 (Nat.add m.t (Nat.mul 8192 (Nat.add m.c (Nat.mul 8192 (Nat.add m.e (Nat.mul 32 (Nat.add m.vt (Nat.mul 256 m.vc)))))))))))))
theorem xEncF_eq (g:Nat) (m:Mo):xEncF g m=xEnc g m:=rfl
def judge (g:Nat) (m:Mo):Nat:=
 fc (maskF (Nat.add 1024 m.a) m.t m.c m.k m.e m.vt m.vc) fun msk=>
 bif Nat.beq (Nat.land msk g) 0 then(bif Nat.beq (Nat.land msk 8) 0 then 0 else(bif xFits g m then xEncF g m else 1))else 1
def stpF (x cl:Nat):Nat:=
 fc (Nat.mod x 8) fun g=>bif Nat.beq g 0 then(bif Nat.ble (Nat.mod (Nat.div x 128) 8192) 1 then 1 else Nat.sub x 128)else
 fc (Nat.mod (Nat.div x 64) 2) fun a0=>fc (bif Nat.beq cl 2 then Nat.add a0 1 else Nat.add (Nat.mul 2 (Nat.div (Nat.add a0 1) 2)) 2) fun q=>fc (Nat.mod q 2) fun a=>fc (Nat.mul 3 (Nat.div q 2)) fun f=>
 fc (Nat.mod (Nat.div x 8) 8) fun k0=>fc (bif Nat.blt k0 4 then Nat.add k0 1 else k0) fun k=>
 fc (Nat.sub (Nat.add (Nat.mod (Nat.div x 128) 8192) (bif Nat.beq cl 0 then 4 else 2)) f) fun t=>
 fc (Nat.sub (Nat.add (Nat.mod (Nat.div x 1048576) 8192) (bif Nat.beq cl 1 then 4 else 2)) f) fun c=>
 fc (Nat.add (Nat.mod (Nat.div x 8589934592) 32) (bif Nat.beq cl 1 then 23 else 1)) fun e0=>fc (bif Nat.ble 25 e0 then 25 else e0) fun e=>
 fc (Nat.mod (Nat.div x 274877906944) 256) fun v1=>fc (fAdvF v1 (bif Nat.beq cl 0 then 2 else 1)) fun vt=>
 fc (Nat.div x 70368744177664) fun v2=>fc (fAdvF v2 (bif Nat.beq cl 1 then 2 else 1)) fun vc=>
 judge g ⟨k,a,t,c,e,vt,vc⟩
theorem out_four (m:Mo) (i j:Nat):m.out i j=1∨m.out i j=2∨m.out i j=4∨m.out i j=8:=by
 rcases out_cases m i j with h|h|h|h|h<;>omega
theorem mask_four:∀a∈[1,2,4,8],∀b∈[1,2,4,8],∀c∈[1,2,4,8],∀d∈[1,2,4,8],∀g∈[2,3,4,5],
 (Nat.beq (Nat.land (Nat.lor (Nat.lor a b) (Nat.lor c d)) g) 0= !(goal g a||goal g b||goal g c||goal g d))∧
 (Nat.beq (Nat.land (Nat.lor (Nat.lor a b) (Nat.lor c d)) 8) 0= !(a==8||b==8||c==8||d==8)):=by decide+kernel
theorem maskF_ok (m:Mo) (g:Nat) (hg:g=2∨g=3∨g=4∨g=5):
 Nat.beq (Nat.land (maskF (1024+m.a) m.t m.c m.k m.e m.vt m.vc) g) 0= !(m.hit g)∧Nat.beq (Nat.land (maskF (1024+m.a) m.t m.c m.k m.e m.vt m.vc) 8) 0= !m.und:=by
 simp only[maskF,fc_eq,fLoF_eq,fHiF_eq,oneOut_eq,Mo.hit,Mo.und,Mo.may]
 have four:∀i j,m.out i j∈[1,2,4,8]:=fun i j=>by simpa using out_four m i j
 have hg':g∈[2,3,4,5]:=by simpa using hg
 by_cases hk:m.k<4
 ·have e:∀i j,m.out i j=8:=fun i j=>by rcases out_cases m i j with h|h|h|h|h<;>omega
  have hb:Nat.blt m.k 4=true:=by rw[Nat.blt_eq];exact hk
  rw[hb,cond_true]
  simp only[e]
  exact mask_four 8 (by simp) 8 (by simp) 8 (by simp) 8 (by simp) g hg'
 ·have hb:Nat.blt m.k 4=false:=by
   cases h:Nat.blt m.k 4 with
   |false=>rfl
   |true=>rw[Nat.blt_eq]at h;exact absurd h hk
  rw[hb,cond_false]
  cases hq:(Nat.beq (fLo m.vt) (fHi m.vt)&&Nat.beq (fLo m.vc) (fHi m.vc))with
  |true=>
   rw[Bool.and_eq_true,bz,bz]at hq
   rw[cond_true,←hq.1,←hq.2]
   have:=mask_four _ (four (fLo m.vt) (fLo m.vc)) _ (four (fLo m.vt) (fLo m.vc)) _ (four (fLo m.vt) (fLo m.vc)) _ (four (fLo m.vt) (fLo m.vc)) g hg'
   have ee:∀a:Nat,Nat.lor (Nat.lor a a) (Nat.lor a a)=a:=fun a=>by
    change (a ||| a) ||| (a ||| a)=a
    rw[Nat.or_self,Nat.or_self]
   rw[ee]at this;exact this
  |false=>
   rw[cond_false]
   exact mask_four _ (four _ _) _ (four _ _) _ (four _ _) _ (four _ _) g hg'
theorem goal_any (g:Nat):∀(v:List Nat) (m:Mo),Holds g m v→g=2∨g=3∨g=4∨g=5
 |[],m,h=>by
  simp only[Holds,Mo.end,may_iff,goal_cases]at h
  obtain⟨i,j,-,-,-,-,h,-,-⟩:=h
  omega
 |cl::v,m,h=>by
  simp only[Holds]at h
  rcases h with h|h
  ·simp only[Mo.hit,may_iff,goal_cases]at h
   obtain⟨i,j,-,-,-,-,h,-,-⟩:=h
   omega
  ·exact goal_any g v _ h.2
theorem judge_eq (g:Nat) (m:Mo) (hg:g=2∨g=3∨g=4∨g=5):judge g m=if m.hit g then 1 else if m.und then(if xFits g m then xEnc g m else 1)else 0:=by
 obtain⟨h1,h2⟩:=maskF_ok m g hg
 unfold judge
 simp only[fc_eq]
 change (bif Nat.beq (Nat.land (maskF (1024+m.a) m.t m.c m.k m.e m.vt m.vc) g) 0 then(bif Nat.beq (Nat.land (maskF (1024+m.a) m.t m.c m.k m.e m.vt m.vc) 8) 0 then 0 else(bif xFits g m then xEnc g m else 1))else 1)=_
 rw[h1,h2]
 cases m.hit g<;>cases m.und<;>cases xFits g m<;>rfl
theorem stpF_eq0 (x cl:Nat):stpF x cl=bif Nat.beq (xG x) 0 then(bif Nat.ble (xT x) 1 then 1 else x-128)else judge (xG x) ((xMo x).adv cl):=by
 unfold stpF
 simp only[fc_eq,fAdvF_eq]
 have hq:(bif Nat.beq cl 2 then Nat.add (Nat.mod (Nat.div x 64) 2) 1 else Nat.add (Nat.mul 2 (Nat.div (Nat.add (Nat.mod (Nat.div x 64) 2) 1) 2)) 2)=moA cl (x/64%2):=by
  rw[bq];rfl
 have h0:∀p q:Nat,(bif Nat.beq cl 0 then p else q)=if cl=0 then p else q:=fun p q=>bq _ _ p q
 have h1:∀p q:Nat,(bif Nat.beq cl 1 then p else q)=if cl=1 then p else q:=fun p q=>bq _ _ p q
 have h4:(bif Nat.blt (Nat.mod (Nat.div x 8) 8) 4 then Nat.add (Nat.mod (Nat.div x 8) 8) 1 else Nat.mod (Nat.div x 8) 8)=if x/8%8<4 then x/8%8+1 else x/8%8:=by
  rw[bt];rfl
 have h24:∀z:Nat,(bif Nat.ble 25 z then 25 else z)=if 25≤z then 25 else z:=fun z=>bl _ _ _ _
 rw[hq,h4]
 simp only[h0,h1,h24]
 rfl
theorem stpF_ok (x cl:Nat) (v:List Nat) (h:H x (cl::v)):stpF x cl=1∨(2≤stpF x cl∧H (stpF x cl) v):=by
 have e:stpF x cl=stp x cl:=by
  rw[stpF_eq0]
  unfold stp
  by_cases h0:xG x=0
  ·rw[if_pos h0,h0]
   simp only[show Nat.beq 0 0=true from rfl,cond_true]
   by_cases h1:xT x≤1
   ·rw[if_pos h1,Nat.ble_eq_true_of_le h1];rfl
   ·rw[if_neg h1]
    cases hb:Nat.ble (xT x) 1 with
    |false=>rfl
    |true=>exact absurd (Nat.le_of_ble_eq_true hb) h1
  ·rw[if_neg h0,beq_false h0,cond_false]
   unfold H at h
   rw[if_neg h0]at h
   exact judge_eq _ _ (goal_any _ _ _ h)
 rw[e];exact stp_ok x cl v h
noncomputable def stepsC (cl:Nat) (k:List Nat→Nat) (kill:Nat) (ms:List Nat):List Nat→Nat:=
 List.rec (motive:=fun _=>List Nat→Nat) (fun acc=>k acc) (fun m _ ih acc=>fc (stpF m cl) fun x=>bif Nat.beq x 0 then kill else bif Nat.beq x 1 then ih acc else ih (x::acc)) ms
theorem stepsC_nil (cl:Nat) (k:List Nat→Nat) (kill:Nat) (acc:List Nat):stepsC cl k kill [] acc=k acc:=rfl
theorem stepsC_cons (cl:Nat) (k:List Nat→Nat) (kill m:Nat) (ms acc:List Nat):stepsC cl k kill (m::ms) acc=
 bif Nat.beq (stpF m cl) 0 then kill else bif Nat.beq (stpF m cl) 1 then stepsC cl k kill ms acc else stepsC cl k kill ms (stpF m cl::acc):=rfl
theorem stepsC_ok (cl:Nat) (k:List Nat→Nat) (kill:Nat):∀(ms acc:List Nat),stepsC cl k kill ms acc≠0→
 (kill≠0∧∀v,¬∀m∈ms,H m (cl::v))∨∃acc',k acc'≠0∧∀v,(∀m∈ms,H m (cl::v))→(∀m∈acc,H m v)→∀m∈acc',H m v
 |[],acc,h=>Or.inr ⟨acc,h,fun v _ h2=>h2⟩
 |m::ms,acc,h=>by
  rw[stepsC_cons]at h
  by_cases h0:stpF m cl=0
  ·simp only[h0,show Nat.beq 0 0=true from rfl,cond_true]at h
   refine Or.inl ⟨h,fun v hv=>?_⟩
   rcases stpF_ok m cl v (hv m List.mem_cons_self)with h1|⟨h1,-⟩<;>omega
  ·simp only[beq_false h0,cond_false]at h
   by_cases h1:stpF m cl=1
   ·simp only[h1,show Nat.beq 1 1=true from rfl,cond_true]at h
    rcases stepsC_ok cl k kill ms acc h with⟨h2,h3⟩|⟨acc',h2,h3⟩
    ·exact Or.inl ⟨h2,fun v hv=>h3 v fun m' hm'=>hv m' (List.mem_cons_of_mem _ hm')⟩
    ·exact Or.inr ⟨acc',h2,fun v hv=>h3 v fun m' hm'=>hv m' (List.mem_cons_of_mem _ hm')⟩
   ·simp only[beq_false h1,cond_false]at h
    rcases stepsC_ok cl k kill ms _ h with⟨h2,h3⟩|⟨acc',h2,h3⟩
    ·exact Or.inl ⟨h2,fun v hv=>h3 v fun m' hm'=>hv m' (List.mem_cons_of_mem _ hm')⟩
    ·refine Or.inr ⟨acc',h2,fun v hv ha=>h3 v (fun m' hm'=>hv m' (List.mem_cons_of_mem _ hm')) fun m' hm'=>?_⟩
     rcases List.mem_cons.1 hm' with rfl|hm'
     ·rcases stpF_ok m cl v (hv m List.mem_cons_self)with h4|⟨-,h4⟩
      ·exact absurd h4 h1
      ·exact h4
     ·exact ha m' hm'
noncomputable def preC (pre cl:Nat) (acc:List Nat) (k:List Nat→Nat) (kill:Nat):Nat:=
 bif Nat.beq pre 0 then k acc else fc (stpF pre cl) fun x=>bif Nat.beq x 0 then kill else bif Nat.beq x 1 then k acc else k (x::acc)
theorem preC_ok (pre cl:Nat) (acc:List Nat) (k:List Nat→Nat) (kill:Nat) (h:preC pre cl acc k kill≠0):
 (kill≠0∧∀v,¬(pre=0∨H pre (cl::v)))∨∃acc',k acc'≠0∧∀v,(pre=0∨H pre (cl::v))→(∀m∈acc,H m v)→∀m∈acc',H m v:=by
 unfold preC at h
 by_cases hp:pre=0
 ·subst hp;simp only[show Nat.beq 0 0=true from rfl,cond_true]at h
  exact Or.inr ⟨acc,h,fun v _ h2=>h2⟩
 ·simp only[beq_false hp,cond_false]at h
  have h':stepsC cl k kill [pre] acc≠0:=by
   rw[stepsC_cons];exact h
  rcases stepsC_ok cl k kill [pre] acc h' with⟨h2,h3⟩|⟨acc',h2,h3⟩
  ·refine Or.inl ⟨h2,fun v hv=>h3 v fun m hm=>?_⟩
   rw[List.mem_singleton]at hm;subst hm
   rcases hv with hv|hv
   ·exact absurd hv hp
   ·exact hv
  ·refine Or.inr ⟨acc',h2,fun v hv=>h3 v fun m hm=>?_⟩
   rw[List.mem_singleton]at hm;subst hm
   rcases hv with hv|hv
   ·exact absurd hv hp
   ·exact hv
noncomputable def remM (k:Nat→Nat) (ms:List Nat):Nat→Nat:=
 List.rec (motive:=fun _=>Nat→Nat) (fun r=>k r) (fun m _ ih r=>fc (remOf m) fun x=>bif Nat.ble x r then ih r else ih x) ms
theorem remM_cons (k:Nat→Nat) (m:Nat) (ms:List Nat) (r:Nat):remM k (m::ms) r=bif Nat.ble (remOf m) r then remM k ms r else remM k ms (remOf m):=rfl
theorem remM_ok (k:Nat→Nat):∀(ms:List Nat) (r:Nat),remM k ms r≠0→∃r',k r'≠0∧∀v:List Nat,(∀m∈ms,H m v)→r≤v.length→r'≤v.length
 |[],r,h=>⟨r,h,fun v _ h2=>h2⟩
 |m::ms,r,h=>by
  rw[remM_cons]at h
  cases hb:Nat.ble (remOf m) r with
  |true=>
   simp only[hb,cond_true]at h
   obtain⟨r',h1,h2⟩:=remM_ok k ms r h
   exact⟨r',h1,fun v hv=>h2 v fun m' hm'=>hv m' (List.mem_cons_of_mem _ hm')⟩
  |false=>
   simp only[hb,cond_false]at h
   obtain⟨r',h1,h2⟩:=remM_ok k ms _ h
   exact⟨r',h1,fun v hv _=>h2 v (fun m' hm'=>hv m' (List.mem_cons_of_mem _ hm')) (rem_ok m v (hv m List.mem_cons_self))⟩
def rootD (key r:Nat):Nat:=if key<8 then(if r<6 then 1000+86*r else 1445)else(if r<6 then 400+86*r else 845)-100*sb key
def rootK (key:Nat):Nat:=if key=2 then 0 else if key=12 then 9 else if key=20 then 17 else key
def cap6 (r:Nat):Nat:=if r<6 then r else 6
def baseOk (key r d:Nat):Bool:=(!Nat.beq key 1)&&Nat.ble d (rootD (rootK key) r)
theorem runK_root (key:Nat) (v:List Nat) (n:Nat) (hk:okKey key) (h1:key≠1) (h:RunK key v n):RunK (rootK key) v n∧okKey (rootK key)∧rootK key≠1∧sb (rootK key)=sb key:=by
 rcases hk with rfl|rfl|rfl|rfl|rfl|rfl|rfl|rfl|rfl|rfl|rfl
 ·exact⟨h,Or.inl rfl,by decide,rfl⟩
 ·exact absurd rfl h1
 ·simp only[RunK]at h;exact⟨by simpa[RunK,rootK]using h.2,Or.inl rfl,by decide,rfl⟩
 ·exact⟨h,by unfold okKey;decide,by decide,rfl⟩
 ·exact⟨h,by unfold okKey;decide,by decide,rfl⟩
 ·exact⟨h,by unfold okKey;decide,by decide,rfl⟩
 ·simp only[RunK]at h;exact⟨by simpa[RunK,rootK]using h.2,by unfold okKey;decide,by decide,rfl⟩
 ·exact⟨h,by unfold okKey;decide,by decide,rfl⟩
 ·exact⟨h,by unfold okKey;decide,by decide,rfl⟩
 ·exact⟨h,by unfold okKey;decide,by decide,rfl⟩
 ·simp only[RunK]at h;exact⟨by simpa[RunK,rootK]using h.2,by unfold okKey;decide,by decide,rfl⟩
def eK (h:Nat):Nat:=h%32
def eD (h:Nat):Nat:=h/32%4096
def eMs (mo:Nat→Nat):Nat→Nat→List Nat
 |0,_=>[]
 |f+1,x=>if x=0 then[]else mo (x%4096)::eMs mo f (x/4096)
def eM (mo:Nat→Nat) (h:Nat):List Nat:=eMs mo 9 (h/131072)
def impF (x y:Nat):Bool:=
 bif Nat.beq x y then true else
 bif Nat.beq (Nat.mod y 8) 0 then Nat.ble (Nat.mod (Nat.div y 128) 8192) (remOf x)else
 bif Nat.beq (Nat.mod x 128) (Nat.mod y 128)then
  bif fOkF (Nat.mod (Nat.div x 274877906944) 256) (Nat.mod (Nat.div y 274877906944) 256)then
   bif fOkF (Nat.div x 70368744177664) (Nat.div y 70368744177664)then
    fb (Nat.mod (Nat.div x 128) 8192) fun xt=>fb (Nat.mod (Nat.div y 128) 8192) fun yt=>fb (Nat.mod (Nat.div x 1048576) 8192) fun xc=>fb (Nat.mod (Nat.div y 1048576) 8192) fun yc=>
    fb (Nat.mod (Nat.div x 8589934592) 32) fun xe=>fb (Nat.mod (Nat.div y 8589934592) 32) fun ye=>
    fb (Nat.mod y 8) fun g=>bif Nat.beq g 2 then Nat.beq xc yc&&(Nat.ble yt xt&&Nat.ble ye xe)
     else bif Nat.beq g 4 then Nat.beq xt yt&&(Nat.ble yc xc&&(Nat.ble 25 ye||(Nat.beq yc xc&&Nat.ble xe ye)))
     else bif Nat.beq g 5 then Nat.beq xc yc&&(Nat.ble xt yt&&Nat.ble xe ye)
     else bif Nat.beq g 3 then Nat.beq xt yt&&(Nat.ble xc yc&&(Nat.ble 25 xe||(Nat.ble 24 xe&&Nat.blt (Nat.mod (Nat.div x 8) 8) 4)))
     else false
   else false
  else false
 else false
theorem impF_ok (x y:Nat) (v:List Nat) (h:impF x y=true) (hx:H x v):H y v:=by
 unfold impF at h
 rw[bq]at h
 split at h
 ·rename_i e;rw[←e];exact hx
 ·rw[bq]at h
  split at h
  ·rename_i e
   refine imp_ok x y v ?_ hx
   unfold imp;rw[if_pos (show xG y=0 from e)];exact h
  ·rename_i e
   rw[bq]at h
   split at h
   ·rename_i e1
    cases hT:fOkF (Nat.mod (Nat.div x 274877906944) 256) (Nat.mod (Nat.div y 274877906944) 256)with
    |false=>rw[hT]at h;cases h
    |true=>
     cases hC:fOkF (Nat.div x 70368744177664) (Nat.div y 70368744177664)with
     |false=>rw[hT,hC]at h;cases h
     |true=>
      rw[hT,hC]at h
      simp only[cond_true,fb_eq,bq]at h
      refine imp_ok x y v ?_ hx
      have e2:x%128=y%128:=e1
      unfold imp
      rw[if_neg (show ¬xG y=0 from e)]
      have hg:xG x=xG y:=by unfold xG;omega
      have hk:x/8%16=y/8%16:=by omega
      have hT':fOk (x/274877906944%256) (y/274877906944%256)=true:=fOkF_ok _ _ hT
      have hC':fOk (x/70368744177664) (y/70368744177664)=true:=fOkF_ok _ _ hC
      rw[hg,hk,hT',hC']
      simp only[beq_self_eq_true,Bool.true_and]
      refine Eq.trans ?_ h
      have bb:∀a b:Nat,(a==b)=Nat.beq a b:=fun a b=>by
       by_cases hab:a=b
       ·subst hab;rw[Nat.beq_refl];exact beq_self_eq_true a
       ·rw[beq_false hab];exact beq_eq_false_iff_ne.2 hab
      simp only[bb,Bool.and_assoc]
      rfl
   ·cases h
noncomputable def anyI (y:Nat) (ms:List Nat):Bool:=List.rec (motive:=fun _=>Bool) false (fun m _ ih=>bif impF m y then true else ih) ms
theorem anyI_cons (y m:Nat) (ms:List Nat):anyI y (m::ms)=bif impF m y then true else anyI y ms:=rfl
theorem anyI_ok (y:Nat) (v:List Nat):∀ms:List Nat,anyI y ms=true→(∀m∈ms,H m v)→H y v
 |[],h,_=>by cases h
 |m::ms,h,hv=>by
  rw[anyI_cons]at h
  cases hb:impF m y with
  |true=>exact impF_ok m y v hb (hv m List.mem_cons_self)
  |false=>rw[hb]at h;exact anyI_ok y v ms h fun m' hm'=>hv m' (List.mem_cons_of_mem _ hm')
noncomputable def allI (mo:Nat→Nat) (ms:List Nat) (f:Nat):Nat→Bool:=
 Nat.rec (motive:=fun _=>Nat→Bool) (fun _=>true) (fun _ ih x=>bif Nat.beq x 0 then true else bif fb (mo (Nat.mod x 4096)) (fun y=>anyI y ms)then fb (Nat.div x 4096) ih else false) f
theorem allI_succ (mo:Nat→Nat) (ms:List Nat) (f x:Nat):allI mo ms (f+1) x=bif Nat.beq x 0 then true else bif anyI (mo (Nat.mod x 4096)) ms then allI mo ms f (Nat.div x 4096)else false:=rfl
theorem allI_ok (mo:Nat→Nat) (ms:List Nat) (v:List Nat) (hv:∀m∈ms,H m v):∀f x,allI mo ms f x=true→∀m∈eMs mo f x,H m v
 |0,_,_,m,hm=>by simp[eMs]at hm
 |f+1,x,h,m,hm=>by
  rw[allI_succ]at h
  unfold eMs at hm
  split at hm
  ·cases hm
  ·rename_i h0
   simp only[beq_false h0,cond_false]at h
   cases ha:anyI (mo (Nat.mod x 4096)) ms with
   |false=>rw[ha]at h;simp at h
   |true=>
    rw[ha]at h;simp only[cond_true]at h
    rcases List.mem_cons.1 hm with rfl|hm
    ·exact anyI_ok _ v ms ha hv
    ·exact allI_ok mo ms v hv f _ h m hm
def Good (hd mo:Nat→Nat) (NE:Nat) (v:List Nat):Prop:=
 (∀i,i<NE→Clm (eK (hd i)) (eM mo (hd i)) (eD (hd i)) v)∧
 (∀key,okKey key→key≠1→rootK key=key→∀r,r≤6→Clm key [128*r] (rootD key r) v)
def keyOk (key k':Nat):Bool:=Nat.beq key k'||(Nat.beq key 2&&Nat.beq k' 0)||(Nat.beq key 12&&Nat.beq k' 9)||(Nat.beq key 20&&Nat.beq k' 17)
noncomputable def refE (hd mo:Nat→Nat) (NE key:Nat) (ms:List Nat) (d i:Nat):Bool:=
 Nat.blt i NE&&fb (hd i) fun h=>keyOk key (Nat.mod h 32)&&(Nat.ble d (Nat.mod (Nat.div h 32) 4096)&&fb (Nat.div h 131072) (allI mo ms 9))
theorem refE_ok {hd mo:Nat→Nat} {NE key:Nat} {ms:List Nat} {d i:Nat} (h:refE hd mo NE key ms d i=true) {v:List Nat} (g:Good hd mo NE v):Clm key ms d v:=by
 simp only[refE,fb_eq,Bool.and_eq_true,Nat.blt_eq,Nat.ble_eq]at h
 obtain⟨hi,hk,hd',ha⟩:=h
 intro n hc hr hv
 have ga:=g.1 i hi n hc
 have hm:=allI_ok mo ms v hv 9 _ ha
 simp only[keyOk,Bool.or_eq_true,Bool.and_eq_true]at hk
 change d≤eD (hd i)at hd'
 have fin:∀k',eK (hd i)=k'→RunK k' v n→sb k'=sb key→d<4095∧300*n+d≤386*v.length+200*sb key+1000:=by
  intro k' e hr' hs
  rw[e]at ga
  obtain⟨h1,h2⟩:=ga hr' hm
  rw[hs]at h2
  omega
 have be:∀{a b:Nat},Nat.beq a b=true→a=b:=fun h=>Nat.eq_of_beq_eq_true h
 have hk':((key=eK (hd i)∨key=2∧eK (hd i)=0)∨key=12∧eK (hd i)=9)∨key=20∧eK (hd i)=17:=by
  rcases hk with((hk|hk)|hk)|hk
  ·exact Or.inl (Or.inl (Or.inl (be hk)))
  ·exact Or.inl (Or.inl (Or.inr ⟨be hk.1,be hk.2⟩))
  ·exact Or.inl (Or.inr ⟨be hk.1,be hk.2⟩)
  ·exact Or.inr ⟨be hk.1,be hk.2⟩
 clear hk
 rcases hk' with((hk|⟨rfl,hk⟩)|⟨rfl,hk⟩)|⟨rfl,hk⟩
 ·exact fin key hk.symm hr rfl
 ·exact fin 0 hk (by simp only[RunK]at hr;simpa[RunK]using hr.2) rfl
 ·exact fin 9 hk (by simp only[RunK]at hr;simpa[RunK]using hr.2) rfl
 ·exact fin 17 hk (by simp only[RunK]at hr;simpa[RunK]using hr.2) rfl
noncomputable def scn (hd mo:Nat→Nat) (g:Nat→Nat) (NE key:Nat) (ms:List Nat) (d f:Nat):Nat→Bool:=
 Nat.rec (motive:=fun _=>Nat→Bool) (fun _=>false) (fun _ ih j=>bif fb (g j) (refE hd mo NE key ms d)then true else fb (Nat.add j 1) ih) f
theorem scn_ok {hd mo:Nat→Nat} {g:Nat→Nat} {NE key:Nat} {ms:List Nat} {d:Nat}:∀f j,scn hd mo g NE key ms d f j=true→∃i,refE hd mo NE key ms d i=true
 |0,_,h=>by cases h
 |f+1,j,h=>by
  have e:scn hd mo g NE key ms d (f+1) j=bif refE hd mo NE key ms d (g j)then true else scn hd mo g NE key ms d f (j+1):=rfl
  rw[e]at h
  cases hr:refE hd mo NE key ms d (g j)with
  |true=>exact⟨_,hr⟩
  |false=>rw[hr]at h;exact scn_ok f _ h
def blk (s:Nat):Nat:=bif Nat.beq (Nat.mod s 2) 0 then 0 else fc (Nat.pow 2 (Nat.mod (Nat.div s 2) 4)) fun p=>Nat.mul 32 (Nat.add p (Nat.mod (Nat.div s 8) p))
def blkR (s:Nat):Nat:=bif Nat.beq (Nat.mod s 2) 0 then Nat.div s 2 else Nat.div s (Nat.mul 8 (Nat.pow 2 (Nat.mod (Nat.div s 2) 4)))
noncomputable def cov (node:Nat→List Nat→Nat→Nat→Nat) (hd mo:Nat→Nat) (pp:Nat→Nat→Nat) (NE key:Nat) (ms:List Nat) (d s:Nat):Nat:=
 remM (fun r=>bif baseOk key (cap6 r) d then Nat.add s 1
  else bif Nat.beq (Nat.mod s 2) 1 then fc (Nat.div s 2) fun s'=>node key ms d s'
  else bif Nat.beq (Nat.mod s 4) 0 then fc (Nat.div s 4) fun s'=>(bif fb (blk s') (scn hd mo (pp key) NE key ms d 32)then Nat.add (blkR s') 1 else 0)
  else(bif fb (Nat.mul 16 (Nat.mod (Nat.div s 4) 1024)) (scn hd mo (fun j=>j) NE key ms d 16)then Nat.add (Nat.div s 4096) 1 else 0)) ms 0
def newD (d gain:Nat):Nat:=bif Nat.ble 4095 d then 4095 else d+gain-1000
noncomputable def one (node:Nat→List Nat→Nat→Nat→Nat) (hd mo:Nat→Nat) (pp:Nat→Nat→Nat) (NE:Nat) (ms:List Nat) (d:Nat) (p:Mv) (s:Nat):Nat:=
 fc p.cl fun cl=>stepsC cl (fun acc=>fc p.pre fun pre=>preC pre cl acc (fun acc=>fc p.post fun post=>fc p.key fun key=>fc (newD d p.gain) fun d'=>
  cov node hd mo pp NE key (bif Nat.beq post 0 then acc else post::acc) d' s) (Nat.add s 1)) (Nat.add s 1) ms []
noncomputable def runL (node:Nat→List Nat→Nat→Nat→Nat) (hd mo:Nat→Nat) (pp:Nat→Nat→Nat) (NE:Nat) (ms:List Nat) (d:Nat) (l:List Mv):Nat→Nat:=
 List.rec (motive:=fun _=>Nat→Nat) (fun s=>Nat.add s 1) (fun p _ ih s=>fc (one node hd mo pp NE ms d p s) fun r=>bif Nat.beq r 0 then 0 else fc (Nat.sub r 1) ih) l
theorem runL_cons (node:Nat→List Nat→Nat→Nat→Nat) (hd mo:Nat→Nat) (pp:Nat→Nat→Nat) (NE:Nat) (ms:List Nat) (d:Nat) (p:Mv) (l:List Mv) (s:Nat):
 runL node hd mo pp NE ms d (p::l) s=bif Nat.beq (one node hd mo pp NE ms d p s) 0 then 0 else runL node hd mo pp NE ms d l (Nat.sub (one node hd mo pp NE ms d p s) 1):=rfl
def endM (m:Nat):Bool:=bif Nat.beq (xG m) 0 then Nat.ble (xT m) 0 else(xMo m).end (xG m)
def allE:List Nat→Bool
 |[]=>true
 |m::ms=>bif endM m then allE ms else false
def endOk (key:Nat) (ms:List Nat) (d:Nat):Bool:=
 (if key<8 then Nat.beq key 1||Nat.ble d 1000 else Nat.ble (d+300+100*sb key) 1000)|| !allE ms
noncomputable def nd (hd mo:Nat→Nat) (pp:Nat→Nat→Nat) (NE:Nat) (f:Nat):Nat→List Nat→Nat→Nat→Nat:=
 Nat.rec (motive:=fun _=>Nat→List Nat→Nat→Nat→Nat) (fun _ _ _ _=>0) (fun _ ih key ms d s=>bif endOk key ms d then runL ih hd mo pp NE ms d (mv key) s else 0) f
theorem nd_succ (hd mo:Nat→Nat) (pp:Nat→Nat→Nat) (NE:Nat) (f key:Nat) (ms:List Nat) (d s:Nat):
 nd hd mo pp NE (f+1) key ms d s=bif endOk key ms d then runL (nd hd mo pp NE f) hd mo pp NE ms d (mv key) s else 0:=rfl
theorem allE_ok:∀ms:List Nat,(∀m∈ms,H m [])→allE ms=true
 |[],_=>rfl
 |m::ms,h=>by
  have h1:endM m=true:=by
   have hm:=h m List.mem_cons_self
   unfold H at hm;unfold endM
   by_cases h0:xG m=0
   ·rw[if_pos h0]at hm
    rw[h0];simpa using hm
   ·rw[if_neg h0]at hm
    rw[beq_false h0];exact hm
  simp only[allE,h1,cond_true]
  exact allE_ok ms fun m' hm'=>h m' (List.mem_cons_of_mem _ hm')
theorem run_end (k:Nat) (n:Nat) (h:Run k [] n):(k=0→n=0)∧(8≤k→∃s,s<3∧(k=8+s∨k=16+s)∧n=s+1):=by
 cases h with
 |nil=>exact⟨fun _=>rfl,fun h=>by omega⟩
 | @tEnd s hs=>exact⟨fun h=>by omega,fun _=>⟨s,hs,Or.inl rfl,rfl⟩⟩
 | @cEnd s hs=>exact⟨fun h=>by omega,fun _=>⟨s,hs,Or.inr rfl,rfl⟩⟩
theorem endOk_ok (key:Nat) (ms:List Nat) (d:Nat) (hk:okKey key) (h:endOk key ms d=true):Clm key ms d []:=by
 intro n hc hr hv
 have ha:=allE_ok ms hv
 simp only[endOk,ha,Bool.not_true,Bool.or_false]at h
 have seg:∀s b,s<3→(b=8∨b=16)→sb key=s→Run (b+s) [] n→¬key<8→d<4095∧300*n+d≤386*0+200*sb key+1000:=by
  intro s b hs hb hks hrun hk8
  rw[if_neg hk8,Nat.ble_eq,hks]at h
  obtain⟨s',h1,h2,h3⟩:=(run_end _ _ hrun).2 (by omega)
  rw[hks]
  omega
 rcases hk with rfl|rfl|rfl|rfl|rfl|rfl|rfl|rfl|rfl|rfl|rfl
 ·have:=(run_end 0 n (by simpa[RunK]using hr)).1 rfl
  simp at h;subst this;simp[sb];omega
 ·simp[RunK]at hr
 ·have:=(run_end 0 n (by simpa[RunK]using hr)).1 rfl
  simp at h;subst this;simp[sb];omega
 ·exact seg 0 8 (by decide) (Or.inl rfl) rfl (by simpa[RunK]using hr) (by decide)
 ·exact seg 1 8 (by decide) (Or.inl rfl) rfl (by simpa[RunK]using hr) (by decide)
 ·exact seg 2 8 (by decide) (Or.inl rfl) rfl (by simpa[RunK]using hr) (by decide)
 ·exact seg 1 8 (by decide) (Or.inl rfl) rfl (by simpa[RunK]using hr) (by decide)
 ·exact seg 0 16 (by decide) (Or.inr rfl) rfl (by simpa[RunK]using hr) (by decide)
 ·exact seg 1 16 (by decide) (Or.inr rfl) rfl (by simpa[RunK]using hr) (by decide)
 ·exact seg 2 16 (by decide) (Or.inr rfl) rfl (by simpa[RunK]using hr) (by decide)
 ·exact seg 1 16 (by decide) (Or.inr rfl) rfl (by simpa[RunK]using hr) (by decide)
def NodeOk (hd mo:Nat→Nat) (NE:Nat) (node:Nat→List Nat→Nat→Nat→Nat):Prop:=
 ∀key ms d s,okKey key→node key ms d s≠0→∀v:List Nat,(∀v',v'.length<v.length→Good hd mo NE v')→Clm key ms d v
theorem cov_ok {hd mo:Nat→Nat} {pp:Nat→Nat→Nat} {NE:Nat} {node} (hn:NodeOk hd mo NE node) {key:Nat} {ms:List Nat} {d s:Nat} (hk:okKey key) (h:cov node hd mo pp NE key ms d s≠0):
 ∀v:List Nat,(∀v',v'.length≤v.length→Good hd mo NE v')→Clm key ms d v:=by
 unfold cov at h
 obtain⟨r,h1,h2⟩:=remM_ok _ ms 0 h
 cases hb:baseOk key (cap6 r) d with
 |true=>
  simp only[hb,cond_true]at h1
  refine fun v hg n hc hr hv=>?_
  have hl:=h2 v hv (Nat.zero_le _)
  simp only[baseOk,Bool.and_eq_true,Nat.ble_eq,Bool.not_eq_true']at hb
  have h11:key≠1:=by intro e;subst e;simp at hb
  obtain⟨hr',ho,ho1,hs⟩:=runK_root key v n hk h11 hr
  have hroot:rootK (rootK key)=rootK key:=by unfold rootK;split<;>split<;>(try split)<;>(try split)<;>(try split)<;>(try split)<;>omega
  have hcap:cap6 r≤6∧cap6 r≤r:=by unfold cap6;split<;>omega
  have:=(hg v (Nat.le_refl _)).2 (rootK key) ho ho1 hroot (cap6 r) hcap.1 n hc hr' (by
   intro m hm
   rw[List.mem_singleton]at hm;subst hm
   unfold H;rw[if_pos (by unfold xG;omega)];unfold xT;omega)
  rw[hs]at this
  omega
 |false=>
  simp only[hb,cond_false]at h1
  cases ht:Nat.beq (Nat.mod s 2) 1 with
  |true=>
   simp only[ht,cond_true,fc_eq]at h1
   exact fun v hg=>hn key ms d _ hk h1 v fun v' hv'=>hg v' (Nat.le_of_lt hv')
  |false=>
   simp only[ht,cond_false,fb_eq]at h1
   cases ht4:Nat.beq (Nat.mod s 4) 0 with
   |true=>
    simp only[ht4,cond_true,fc_eq]at h1
    cases hr:scn hd mo (pp key) NE key ms d 32 (blk (Nat.div s 4))with
    |false=>rw[hr]at h1;simp at h1
    |true=>
     obtain⟨i,hi⟩:=scn_ok _ _ hr
     exact fun v hg=>refE_ok hi (hg v (Nat.le_refl _))
   |false=>
    simp only[ht4,cond_false]at h1
    cases hr:scn hd mo (fun j=>j) NE key ms d 16 (Nat.mul 16 (Nat.mod (Nat.div s 4) 1024))with
    |false=>rw[hr]at h1;simp at h1
    |true=>
     obtain⟨i,hi⟩:=scn_ok _ _ hr
     exact fun v hg=>refE_ok hi (hg v (Nat.le_refl _))
theorem one_ok {hd mo:Nat→Nat} {pp:Nat→Nat→Nat} {NE:Nat} {node} (hn:NodeOk hd mo NE node) {ms:List Nat} {d:Nat} {p:Mv} {s:Nat} (hp:okKey p.key) (h:one node hd mo pp NE ms d p s≠0):
 ∀(key:Nat) (v:List Nat) (n:Nat),(∀v',v'.length≤v.length→Good hd mo NE v')→(∀c∈v,c<4)→(∀m∈ms,H m (p.cl::v))→p.says key p.cl v n→
  d<4095∧300*n+d≤386*(v.length+1)+200*sb key+1000:=by
 simp only[one,fc_eq]at h
 rcases stepsC_ok _ _ _ _ _ h with⟨h1,h2⟩|⟨acc,h1,h2⟩
 ·exact fun key v n _ _ hv _=>absurd hv (h2 v)
 ·rcases preC_ok _ _ _ _ _ h1 with⟨h3,h4⟩|⟨acc',h3,h4⟩
  ·exact fun key v n _ _ hv hs=>absurd hs.2.2.2.1 (h4 v)
  ·have h6:=cov_ok hn hp h3
   refine fun key v n hg hc hv hs=>?_
   obtain⟨-,-,⟨n',hr,he⟩,hpre,hpost⟩:=hs
   have ha:=h4 v hpre (h2 v hv (by intro m hm;cases hm))
   have:=h6 v hg n' hc hr (by
    intro m hm
    cases hb:Nat.beq p.post 0 with
    |true=>rw[hb]at hm;exact ha m hm
    |false=>
     rw[hb]at hm
     rcases List.mem_cons.1 hm with rfl|hm
     ·rcases hpost with h0|h0
      ·rw[h0]at hb;cases hb
      ·exact h0
     ·exact ha m hm)
   unfold newD at this
   cases hd4:Nat.ble 4095 d with
   |true=>rw[hd4]at this;simp at this
   |false=>
    rw[hd4]at this;simp only[cond_false]at this
    have hlt:¬4095≤d:=by rw[←Nat.ble_eq,hd4];decide
    omega
theorem runL_ok {hd mo:Nat→Nat} {pp:Nat→Nat→Nat} {NE:Nat} {node} (hn:NodeOk hd mo NE node) {ms:List Nat} {d:Nat}:∀(l:List Mv) (s:Nat),(∀p∈l,okKey p.key)→runL node hd mo pp NE ms d l s≠0→
 ∀p∈l,∀(key:Nat) (v:List Nat) (n:Nat),(∀v',v'.length≤v.length→Good hd mo NE v')→(∀c∈v,c<4)→(∀m∈ms,H m (p.cl::v))→p.says key p.cl v n→
  d<4095∧300*n+d≤386*(v.length+1)+200*sb key+1000
 |[],s,_,h=>fun p hp=>by cases hp
 |p::l,s,ho,h=>by
  rw[runL_cons]at h
  by_cases h0:one node hd mo pp NE ms d p s=0
  ·rw[h0]at h;exact absurd rfl h
  ·rw[beq_false h0,cond_false]at h
   have h2:=one_ok hn (ho p List.mem_cons_self) h0
   have h4:=runL_ok hn l _ (fun q hq=>ho q (List.mem_cons_of_mem _ hq)) h
   intro q hq
   rcases List.mem_cons.1 hq with rfl|hq
   ·exact h2
   ·exact h4 q hq
theorem mv_keys (key:Nat) (hk:okKey key):∀p∈mv key,okKey p.key:=by
 have:∀l:List Mv,l.all (fun p=>decide (p.key=0∨p.key=1∨p.key=2∨p.key=8∨p.key=9∨p.key=10∨p.key=12∨p.key=16∨p.key=17∨p.key=18∨p.key=20))=true→∀p∈l,okKey p.key:=by
  intro l hl p hp
  have:=List.all_eq_true.1 hl p hp
  unfold okKey;exact of_decide_eq_true this
 rcases hk with rfl|rfl|rfl|rfl|rfl|rfl|rfl|rfl|rfl|rfl|rfl<;>exact this _ (by decide+kernel)
theorem nd_ok (hd mo:Nat→Nat) (pp:Nat→Nat→Nat) (NE:Nat):∀f,NodeOk hd mo NE (nd hd mo pp NE f)
 |0=>fun key ms d s _ h=>absurd rfl h
 |f+1=>fun key ms d s hk h=>by
  rw[nd_succ]at h
  cases he:endOk key ms d with
  |false=>rw[he]at h;exact absurd rfl h
  |true=>
   rw[he,cond_true]at h
   have h2:=runL_ok (nd_ok hd mo pp NE f) (mv key) s (mv_keys key hk) h
   intro v hg
   cases v with
   |nil=>exact endOk_ok key ms d hk he
   |cons cl v=>
    intro n hc hr hv
    obtain⟨p,hp,hs⟩:=mv_ok key cl v n hk (hc cl List.mem_cons_self) hr
    have e:p.cl=cl:=hs.1
    have:=h2 p hp key v n (fun v' hv'=>hg v' (by simp only[List.length_cons];omega)) (fun c hc'=>hc c (List.mem_cons_of_mem _ hc')) (by rw[e];exact hv) (by rw[e];exact hs)
    simp only[List.length_cons];exact this
theorem Clm.mono {key:Nat} {ms ms':List Nat} {d:Nat} {v:List Nat} (h:Clm key ms d v) (hs:∀m∈ms,m∈ms'):Clm key ms' d v:=
 fun n hc hr hv=>h n hc hr fun m hm=>hv m (hs m hm)
theorem table_ok (hd mo:Nat→Nat) (pp:Nat→Nat→Nat) (NE:Nat)
 (h1:∀i,i<NE→okKey (eK (hd i))∧∃f s ms,(∀m∈ms,m∈eM mo (hd i))∧nd hd mo pp NE f (eK (hd i)) ms (eD (hd i)) s≠0)
 (h2:∀key,okKey key→key≠1→rootK key=key→∀r,r≤6→∃f s,nd hd mo pp NE f key [128*r] (rootD key r) s≠0) (v:List Nat):Good hd mo NE v:=by
 have:∀(N:Nat) (v:List Nat),v.length<N→Good hd mo NE v:=by
  intro N
  induction N with
  |zero=>intro v h;omega
  |succ N ih=>
   intro v hv
   have hg:∀v',v'.length<v.length→Good hd mo NE v':=fun v' h=>ih v' (by omega)
   refine⟨fun i hi=>?_,fun key hk hk1 hkr r hr=>?_⟩
   ·obtain⟨ho,f,s,ms,hm,h⟩:=h1 i hi
    exact(nd_ok hd mo pp NE f _ _ _ _ ho h v hg).mono hm
   ·obtain⟨f,s,h⟩:=h2 key hk hk1 hkr r hr
    exact nd_ok hd mo pp NE f _ _ _ _ hk h v hg
 exact this (v.length+1) v (Nat.lt_succ_self _)
noncomputable def forceL (k:List Nat→Nat) (ms:List Nat):List Nat→Nat:=
 List.rec (motive:=fun _=>List Nat→Nat) (fun acc=>k acc) (fun m _ ih acc=>fc m fun x=>ih (x::acc)) ms
theorem forceL_eq (k:List Nat→Nat):∀(ms acc:List Nat),forceL k ms acc=k (ms.reverse++acc)
 |[],acc=>rfl
 |m::ms,acc=>by
  have e:forceL k (m::ms) acc=forceL k ms (m::acc):=rfl
  rw[e,forceL_eq k ms (m::acc)]
  simp
def okKeyB (key:Nat):Bool:=Nat.beq (Nat.mod (Nat.div 1513223 (Nat.pow 2 key)) 2) 1
theorem okKeyB_ok (h:Nat) (e:okKeyB (eK h)=true):okKey (eK h):=by
 have:∀k:Nat,k<32→okKeyB k=true→(k=0∨k=1∨k=2∨k=8∨k=9∨k=10∨k=12∨k=16∨k=17∨k=18∨k=20):=by decide+kernel
 exact this (eK h) (by unfold eK;omega) e
noncomputable def chkFrom (hd mo:Nat→Nat) (pp:Nat→Nat→Nat) (NE n:Nat):Nat→Nat→Nat:=
 Nat.rec (motive:=fun _=>Nat→Nat→Nat) (fun _ s=>Nat.add s 1)
  (fun _ ih i s=>fc (hd i) fun h=>fc (eK h) fun key=>fc (eD h) fun d=>bif okKeyB key then
    forceL (fun ms=>fc (nd hd mo pp NE 40 key ms d s) fun r=>bif Nat.beq r 0 then 0 else fc (Nat.sub r 1) fun s'=>fc (Nat.add i 1) fun i'=>ih i' s') (eM mo h) []else 0) n
theorem chkFrom_ok (hd mo:Nat→Nat) (pp:Nat→Nat→Nat) (NE:Nat):∀(n i s:Nat),chkFrom hd mo pp NE n i s≠0→
 ∀j,i≤j→j<i+n→okKey (eK (hd j))∧∃f s ms,(∀m∈ms,m∈eM mo (hd j))∧nd hd mo pp NE f (eK (hd j)) ms (eD (hd j)) s≠0
 |0,i,s,_,j,h1,h2=>by omega
 |n+1,i,s,h,j,h1,h2=>by
  have e:chkFrom hd mo pp NE (n+1) i s=bif okKeyB (eK (hd i))then
   forceL (fun ms=>bif Nat.beq (nd hd mo pp NE 40 (eK (hd i)) ms (eD (hd i)) s) 0 then 0 else chkFrom hd mo pp NE n (Nat.add i 1) (Nat.sub (nd hd mo pp NE 40 (eK (hd i)) ms (eD (hd i)) s) 1)) (eM mo (hd i)) []else 0:=rfl
  rw[e]at h
  cases hk:okKeyB (eK (hd i))with
  |false=>rw[hk]at h;exact absurd rfl h
  |true=>
   rw[hk,cond_true,forceL_eq]at h
   by_cases h0:nd hd mo pp NE 40 (eK (hd i)) ((eM mo (hd i)).reverse++[]) (eD (hd i)) s=0
   ·rw[h0]at h;exact absurd rfl h
   ·rw[beq_false h0,cond_false]at h
    rcases Nat.lt_or_ge i j with h3|h3
    ·exact chkFrom_ok hd mo pp NE n _ _ h j h3 (by change j<(i+1)+n;omega)
    ·obtain rfl:i=j:=by omega
     exact⟨okKeyB_ok _ hk,40,s,_,fun m hm=>by simpa using hm,h0⟩
theorem chk_ne {x:Nat} (h:Nat.beq x 1=true):x≠0:=by
 have:=Nat.eq_of_beq_eq_true h;omega
noncomputable def chkRoots (hd mo:Nat→Nat) (pp:Nat→Nat→Nat) (NE:Nat) (l:List (Nat×Nat)):Nat→Nat:=
 List.rec (motive:=fun _=>Nat→Nat) (fun s=>Nat.add s 1)
  (fun p _ ih s=>fc p.1 fun key=>fc (Nat.mul 128 p.2) fun m=>fc (rootD key p.2) fun d=>fc (nd hd mo pp NE 40 key [m] d s) fun r=>bif Nat.beq r 0 then 0 else fc (Nat.sub r 1) ih) l
theorem chkRoots_ok (hd mo:Nat→Nat) (pp:Nat→Nat→Nat) (NE:Nat):∀(l:List (Nat×Nat)) (s:Nat),chkRoots hd mo pp NE l s≠0→∀p∈l,∃f s,nd hd mo pp NE f p.1 [128*p.2] (rootD p.1 p.2) s≠0
 |[],s,h,p,hp=>by cases hp
 |q::l,s,h,p,hp=>by
  have e:chkRoots hd mo pp NE (q::l) s=bif Nat.beq (nd hd mo pp NE 40 q.1 [Nat.mul 128 q.2] (rootD q.1 q.2) s) 0 then 0 else chkRoots hd mo pp NE l (Nat.sub (nd hd mo pp NE 40 q.1 [Nat.mul 128 q.2] (rootD q.1 q.2) s) 1):=rfl
  rw[e]at h
  by_cases h0:nd hd mo pp NE 40 q.1 [Nat.mul 128 q.2] (rootD q.1 q.2) s=0
  ·rw[h0]at h;exact absurd rfl h
  ·rw[beq_false h0,cond_false]at h
   rcases List.mem_cons.1 hp with rfl|hp
   ·exact⟨40,s,h0⟩
   ·exact chkRoots_ok hd mo pp NE l _ h p hp
def roots:List (Nat×Nat):=[(0,0),(0,1),(0,2),(0,3),(0,4),(0,5),(0,6),(8,0),(8,1),(8,2),(8,3),(8,4),(8,5),(8,6),(9,0),(9,1),(9,2),(9,3),(9,4),(9,5),(9,6),
 (10,0),(10,1),(10,2),(10,3),(10,4),(10,5),(10,6),(16,0),(16,1),(16,2),(16,3),(16,4),(16,5),(16,6),(17,0),(17,1),(17,2),(17,3),(17,4),(17,5),(17,6),
 (18,0),(18,1),(18,2),(18,3),(18,4),(18,5),(18,6)]
theorem roots_all (key:Nat) (hk:okKey key) (h1:key≠1) (hr:rootK key=key) (r:Nat) (h:r≤6):(key,r)∈roots:=by
 have hk':key=0∨key=8∨key=9∨key=10∨key=16∨key=17∨key=18:=by
  rcases hk with rfl|rfl|rfl|rfl|rfl|rfl|rfl|rfl|rfl|rfl|rfl<;>simp[rootK]at hr h1 ⊢
 have hr':r=0∨r=1∨r=2∨r=3∨r=4∨r=5∨r=6:=by omega
 rcases hk' with rfl|rfl|rfl|rfl|rfl|rfl|rfl<;>rcases hr' with rfl|rfl|rfl|rfl|rfl|rfl|rfl<;>decide
theorem bound_of (hd mo:Nat→Nat) (NE:Nat) (hg:∀v,Good hd mo NE v) (v:List Nat) (n:Nat) (hc:∀c∈v,c<4) (h:Run 0 v n):
 300*n+(if v.length<6 then 86*v.length else 445)≤386*v.length:=by
 have hcap:cap6 v.length≤6∧cap6 v.length≤v.length:=by unfold cap6;split<;>omega
 have:=(hg v).2 0 (Or.inl rfl) (by decide) rfl (cap6 v.length) hcap.1 n hc (by simpa[RunK]using h) (by
  intro m hm
  rw[List.mem_singleton]at hm;subst hm
  unfold H;rw[if_pos (by unfold xG;omega)];unfold xT;omega)
 rw[show sb 0=0 from rfl]at this
 simp only[rootD,cap6]at this
 split
 ·rename_i h6
  simp only[h6,if_true]at this
  rw[if_pos (by decide)]at this
  omega
 ·rename_i h6
  simp only[h6,if_false]at this
  rw[if_pos (by decide),if_neg (by decide)]at this
  omega
end Go.Proofs.YtcnallabiffemaaGreatDoor
