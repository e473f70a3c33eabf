/- The steps of the encoder's way. -/
import Derived.Test.YtcnallabiffemaaGreatDoorZs5
set_option linter.unusedVariables false
set_option linter.unusedSimpArgs false
namespace Go.Proofs.YtcnallabiffemaaGreatDoor
section
open Go.RowKit
theorem dec_vals (f:F6):f.dec=1∨f.dec=2∨f.dec=4∨f.dec=8:=by
 unfold F6.dec;split
 ·simp
 ·split
  ·simp
  ·split<;>simp
theorem fin_vals (f:F6):f.fin=1∨f.fin=2∨f.fin=4:=by
 unfold F6.fin;split
 ·simp
 ·split<;>simp
theorem lkRun_vals:∀(v:List Nat) (n:Nat) (f:F6),lkRun n f v=1∨lkRun n f v=2∨lkRun n f v=4
 |[],n,f=>fin_vals f
 |cl::v,n,f=>by
  rw[lkRun_cons]
  split
  ·exact lkRun_vals v _ _
  ·split
   ·exact lkRun_vals v _ _
   ·rcases dec_vals (f.step cl)with h|h|h|h
    ·exact .inl h
    ·exact .inr (.inl h)
    ·exact .inr (.inr h)
    ·rename_i hne;exact absurd h hne
theorem lkTest_le (mode:Nat) (v:List Nat):lkTest mode v≤2:=by unfold lkTest lkMode;split;·omega
                                                              split<;>omega
theorem lk_holds {mode:Nat} {v:List Nat} (hl:v.length≤1000) (g:Nat) (hg:goal g (lkRun 0 (lkStart mode) v)=true):Holds g (lkMo mode) v:=look_holds v 0 _ _ g (Rel_start mode) (by omega) hg
theorem lk_at {mode r:Nat} {v:List Nat} (h:lkTest mode v=r):(r=0∧lkRun 0 (lkStart mode) v=1)∨(r=2∧lkRun 0 (lkStart mode) v=2)∨(r=1∧lkRun 0 (lkStart mode) v=4):=by
 unfold lkTest lkMode at h
 rcases lkRun_vals v 0 (lkStart mode)with e|e|e<;>rw[e]at h ⊢ <;>simp at h<;>omega
theorem lkA_T {v:List Nat} (hl:v.length≤1000) (h:lkTest 0 v=2):Holds 2 mA v:=lk_holds (mode:=0) hl 2 (by rcases lk_at h with⟨e,k⟩|⟨e,k⟩|⟨e,k⟩<;>first|(rw[k];rfl)|omega)
theorem lkA_C {v:List Nat} (hl:v.length≤1000) (h:lkTest 0 v=1):Holds 4 mA v:=lk_holds (mode:=0) hl 4 (by rcases lk_at h with⟨e,k⟩|⟨e,k⟩|⟨e,k⟩<;>first|(rw[k];rfl)|omega)
theorem lkT_stay {v:List Nat} (hl:v.length≤1000) (h:lkTest 2 v=2):Holds 2 mT v:=lk_holds (mode:=2) hl 2 (by rcases lk_at h with⟨e,k⟩|⟨e,k⟩|⟨e,k⟩<;>first|(rw[k];rfl)|omega)
theorem lkT_exit {v:List Nat} (hl:v.length≤1000) (h:lkTest 2 v≠2):Holds 5 mT v:=lk_holds (mode:=2) hl 5 (by rcases lk_at (r:=lkTest 2 v) rfl with⟨e,k⟩|⟨e,k⟩|⟨e,k⟩<;>first|(rw[k];rfl)|omega)
theorem lkC_stay {v:List Nat} (hl:v.length≤1000) (h:lkTest 1 v=1):Holds 4 mC v:=lk_holds (mode:=1) hl 4 (by rcases lk_at h with⟨e,k⟩|⟨e,k⟩|⟨e,k⟩<;>first|(rw[k];rfl)|omega)
theorem lkC_exit {v:List Nat} (hl:v.length≤1000) (h:lkTest 1 v≠1):Holds 3 mC v:=lk_holds (mode:=1) hl 3 (by rcases lk_at (r:=lkTest 1 v) rfl with⟨e,k⟩|⟨e,k⟩|⟨e,k⟩<;>first|(rw[k];rfl)|omega)
theorem Run_total:∀(v:List Nat),v.length≤1000→(∃n,Run 0 v n)∧(∀s,s<3→∃n,Run (8+s) v n)∧(∀s,s<3→∃n,Run (16+s) v n)
 |[],_=>⟨⟨0,.nil⟩,fun s hs=>⟨_,.tEnd hs⟩,fun s hs=>⟨_,.cEnd hs⟩⟩
 |cl::v,hl=>by
  have hv:v.length≤1000:=by simp at hl;omega
  obtain⟨⟨n0,h0⟩,hT,hC⟩:=Run_total v hv
  have tT:∀s,s<3→∃n,Run (8+s) (cl::v) n:=fun s hs=>by
   by_cases h3:(s+tv cl)%3=0
   ·by_cases ht:lkTest 2 v=2
    ·obtain⟨n,h⟩:=hT 0 (by omega)
     exact⟨_,.tStay hs h3 (lkT_stay hv ht) h⟩
    ·exact⟨_,.tExit hs h3 (lkT_exit hv ht) h0⟩
   ·obtain⟨n,h⟩:=hT ((s+tv cl)%3) (by omega)
    exact⟨_,.tMid hs h3 h⟩
  have tC:∀s,s<3→∃n,Run (16+s) (cl::v) n:=fun s hs=>by
   by_cases h3:(s+cv cl)%3=0
   ·by_cases ht:lkTest 1 v=1
    ·obtain⟨n,h⟩:=hC 0 (by omega)
     exact⟨_,.cStay hs h3 (lkC_stay hv ht) h⟩
    ·exact⟨_,.cExit hs h3 (lkC_exit hv ht) h0⟩
   ·obtain⟨n,h⟩:=hC ((s+cv cl)%3) (by omega)
    exact⟨_,.cMid hs h3 h⟩
  refine⟨?_,tT,tC⟩
  by_cases hd:twoD cl v
  ·obtain⟨rfl,h2⟩:=hd
   cases v with
   |nil=>simp at h2
   |cons d v2=>
    simp at h2
    subst h2
    obtain⟨⟨n,h⟩,-,-⟩:=Run_total v2 (by simp at hl;omega)
    exact⟨_,.pair h⟩
  ·exact⟨_,.stay hd h0⟩
def Tot (v:List Nat) (key p k:Nat):Prop:=∀n,Run key (v.drop p) n→Run 0 v (k+n)
theorem Tot.start (v:List Nat):Tot v 0 0 0:=fun n h=>by simpa using h
theorem Tot.bound {v:List Nat} {key p k B:Nat} (h:Tot v key p k) (hl:v.length≤1000) (hk:key=0∨(∃s,s<3∧key=8+s)∨∃s,s<3∧key=16+s) (hB:∀n,Run 0 v n→n≤B):k≤B:=by
 obtain⟨h0,hT,hC⟩:=Run_total (v.drop p) (by simp;omega)
 have:∃n,Run key (v.drop p) n:=by
  rcases hk with rfl|⟨s,hs,rfl⟩|⟨s,hs,rfl⟩
  ·exact h0
  ·exact hT s hs
  ·exact hC s hs
 obtain⟨n,hn⟩:=this
 have:=hB _ (h n hn)
 omega
end
section
open Go.RowKit
section
variable {v:List Nat} {p k:Nat}
theorem drop_at (hp:p<v.length):v.drop p=v.getD p 0::v.drop (p+1):=by
 rw[List.drop_eq_getElem_cons hp,List.getD_eq_getElem?_getD,List.getElem?_eq_getElem hp,Option.getD_some]
theorem head_drop (v:List Nat) (p:Nat):(v.drop p).head? =v[p]? :=by rw[List.head?_eq_getElem?,List.getElem?_drop,Nat.add_zero]
theorem Tot.pair (h:Tot v 0 p k) (hp:p+1<v.length) (h1:v.getD p 0=2) (h2:v.getD (p+1) 0=2):Tot v 0 (p+2) (k+1):=fun n hn=>by
 rw[show k+1+n=k+(n+1) by omega]
 refine h _ ?_
 rw[drop_at (by omega),drop_at (p:=p+1) hp,h1,h2]
 exact .pair hn
def noPair (v:List Nat) (p:Nat):Prop:=¬(v.getD p 0=2∧v[p+1]? =some 2)
theorem noPair.twoD (h:noPair v p):¬twoD (v.getD p 0) (v.drop (p+1)):=fun⟨h1,h2⟩=>h ⟨h1,by rw[←head_drop];exact h2⟩
theorem Tot.stay (h:Tot v 0 p k) (hp:p<v.length) (hd:noPair v p):Tot v 0 (p+1) (k+1):=fun n hn=>by
 rw[show k+1+n=k+(n+1) by omega]
 refine h _ ?_
 rw[drop_at hp]
 exact .stay hd.twoD hn
theorem Tot.toT (h:Tot v 0 p k) (hp:p<v.length) (hl:v.length≤1000) (hd:noPair v p) (hk:lkTest 0 (v.drop p)=2):Tot v 8 p (k+1):=fun n hn=>by
 rw[show k+1+n=k+(n+1) by omega]
 refine h _ ?_
 have hh:=lkA_T (by simp;omega) hk
 rw[drop_at hp]at hn hh ⊢
 exact .toT hd.twoD hh hn
theorem Tot.toC (h:Tot v 0 p k) (hp:p<v.length) (hl:v.length≤1000) (hd:noPair v p) (hk:lkTest 0 (v.drop p)=1):Tot v 16 p (k+1):=fun n hn=>by
 rw[show k+1+n=k+(n+1) by omega]
 refine h _ ?_
 have hh:=lkA_C (by simp;omega) hk
 rw[drop_at hp]at hn hh ⊢
 exact .toC hd.twoD hh hn
def kb (fn:Nat):Nat:=if fn=124 then 16 else 8
def xv (fn cl:Nat):Nat:=if fn=124 then cv cl else tv cl
def mo (fn:Nat):Nat:=if fn=124 then 1 else 2
theorem Tot.mid {fn s:Nat} (hf:fn=124∨fn=125) (h:Tot v (kb fn+s) p k) (hs:s<3) (hp:p<v.length) (h3:(s+xv fn (v.getD p 0))%3≠0):Tot v (kb fn+(s+xv fn (v.getD p 0))%3) (p+1) (k+2*((s+xv fn (v.getD p 0))/3)):=fun n hn=>by
 rw[show k+2*((s+xv fn (v.getD p 0))/3)+n=k+(n+2*((s+xv fn (v.getD p 0))/3)) by omega]
 refine h _ ?_
 rw[drop_at hp]
 rcases hf with rfl|rfl
 ·exact .cMid hs h3 hn
 ·exact .tMid hs h3 hn
theorem Tot.on {fn s:Nat} (hf:fn=124∨fn=125) (h:Tot v (kb fn+s) p k) (hs:s<3) (hp:p<v.length) (hl:v.length≤1000) (h3:(s+xv fn (v.getD p 0))%3=0) (hk:lkTest (mo fn) (v.drop (p+1))=mo fn):
 Tot v (kb fn+0) (p+1) (k+2*((s+xv fn (v.getD p 0))/3)):=fun n hn=>by
 rw[show k+2*((s+xv fn (v.getD p 0))/3)+n=k+(n+2*((s+xv fn (v.getD p 0))/3)) by omega]
 refine h _ ?_
 rw[drop_at hp]
 rcases hf with rfl|rfl
 ·exact .cStay hs h3 (lkC_stay (by simp;omega) hk) hn
 ·exact .tStay hs h3 (lkT_stay (by simp;omega) hk) hn
theorem Tot.off {fn s:Nat} (hf:fn=124∨fn=125) (h:Tot v (kb fn+s) p k) (hs:s<3) (hp:p<v.length) (hl:v.length≤1000) (h3:(s+xv fn (v.getD p 0))%3=0) (hk:lkTest (mo fn) (v.drop (p+1))≠mo fn):
 Tot v 0 (p+1) (k+2*((s+xv fn (v.getD p 0))/3)+1):=fun n hn=>by
 rw[show k+2*((s+xv fn (v.getD p 0))/3)+1+n=k+(n+1+2*((s+xv fn (v.getD p 0))/3)) by omega]
 refine h _ ?_
 rw[drop_at hp]
 rcases hf with rfl|rfl
 ·exact .cExit hs h3 (lkC_exit (by simp;omega) hk) hn
 ·exact .tExit hs h3 (lkT_exit (by simp;omega) hk) hn
theorem Tot.fin {fn s B:Nat} (hf:fn=124∨fn=125) (h:Tot v (kb fn+s) p k) (hs:s<3) (hp:v.length≤p) (hB:∀n,Run 0 v n→n≤B):k+s+1≤B:=by
 refine hB _ (h (s+1) ?_)
 rw[List.drop_eq_nil_of_le hp]
 rcases hf with rfl|rfl
 ·exact .cEnd hs
 ·exact .tEnd hs
theorem Tot.end0 {B:Nat} (h:Tot v 0 p k) (hp:v.length≤p) (hB:∀n,Run 0 v n→n≤B):k≤B:=by
 refine hB _ (h 0 ?_)
 rw[List.drop_eq_nil_of_le hp]
 exact .nil
end
theorem lk_last1:∀a,a<4→lkTest 0 [a]=0:=by decide+kernel
theorem lk_last2:∀a,a<4→∀b,b<4→lkTest 0 [a,b]=0:=by decide+kernel
end
end Go.Proofs.YtcnallabiffemaaGreatDoor
