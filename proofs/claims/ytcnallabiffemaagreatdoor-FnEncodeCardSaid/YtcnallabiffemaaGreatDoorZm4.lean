/- The reference's placement does what its walk says: the head, and the walk. -/
import Derived.Test.YtcnallabiffemaaGreatDoorZl
import Derived.Test.YtcnallabiffemaaGreatDoorZm2
import Derived.Test.YtcnallabiffemaaGreatDoorZg
import Derived.Deep.DeepCutAuto
import Derived.Deep.LoopGhost
import Derived.Deep.CutBlock
import Derived.Deep.RegionWith
import Derived.BigRegion
set_option linter.unusedVariables false
set_option linter.unusedSimpArgs false
namespace Go.Proofs.YtcnallabiffemaaGreatDoor
section
open Go.RowKit
theorem OccI.setS1 {rows cols:Nat} {m occ o':Nat} {bits:List Int} {p:Int×Int} (h:OccI bits occ) (hp:put1 rows cols occ p=some o'):
 InR rows cols p∧OccI (bits.set (idxR rows cols p.1 p.2).toNat (m:Int)) o':=by
 unfold put1 at hp
 split at hp
 ·rename_i hc
  simp only[Bool.and_eq_true]at hc
  obtain rfl:occ ||| 1 <<< (idxR rows cols p.1 p.2).toNat=o':=by simpa using hp
  refine⟨inRB_ok hc.1,fun n hn=>?_⟩
  have hn':n<bits.length:=by simpa using hn
  rw[getD_set hn',testBit_put]
  by_cases e:(idxR rows cols p.1 p.2).toNat=n
  ·rw[if_pos e];simp[e]
  ·rw[if_neg e,h n hn'];simp[e]
 ·cases hp
theorem OccI.setLS {rows cols pos:Nat}:∀(ps:List (Int×Int)) (k occ o':Nat) (bits:List Int),OccI bits occ→putAll rows cols ps occ=some o'→
 (∀p∈ps,InR rows cols p)∧OccI (setLS rows cols pos k ps bits) o'
 |[],_,occ,o',bits,h,hp=>⟨(fun _ h=>by cases h),by simp only[putAll,Option.some.injEq]at hp;subst hp;exact h⟩
 |p::ps,k,occ,o',bits,h,hp=>by
  rw[putAll]at hp
  obtain⟨o1,h1,h2⟩:=Option.bind_eq_some_iff.1 hp
  obtain⟨a,b⟩:=h.setS1 (m:=8*pos+k) h1
  obtain⟨c,d⟩:=OccI.setLS (pos:=pos) ps (k+1) o1 o' _ b h2
  refine⟨fun q hq=>?_,d⟩
  rcases List.mem_cons.1 hq with hq|hq
  ·rw[hq];exact a
  ·exact c q hq
theorem putEv_okS {rows cols:Nat} {ev:Nat×Int×Int} {s s':PS} (hp:putEv rows cols ev s=some s') (h:OccI (foldS rows cols s.evs) s.occ):
 s'.evs=ev::s.evs∧(∀p∈coords rows cols ev,InR rows cols p)∧OccI (foldS rows cols s'.evs) s'.occ:=by
 unfold putEv at hp
 obtain⟨o,h1,h2⟩:=Option.map_eq_some_iff.1 hp
 subst h2
 obtain⟨a,b⟩:=OccI.setLS (pos:=s.evs.length) _ 0 _ _ _ h h1
 exact⟨rfl,a,b⟩
theorem OccI.initS (rows cols:Nat):OccI (foldS rows cols []) 0:=by
 intro n hn
 have:n<rows*cols:=by simpa[foldS]using hn
 simp[foldS,List.getElem?_replicate,this]
theorem upS_ok {rows cols:Nat}:∀(k:Nat) (row col:Int) (s:PS) (x:Int×Int×PS),upS rows cols k row col s=some x→s.evs.length≤x.2.2.evs.length∧okRC x.1 x.2.1
 |0,_,_,_,_,h=>by cases h
 |k+1,row,col,s,x,h=>by
  rw[upS]at h
  split at h
  ·rename_i h0
   split at h
   ·obtain⟨s1,h1,h2⟩:=Option.bind_eq_some_iff.1 h
    obtain⟨a,b⟩:=upS_ok k _ _ _ _ h2
    exact⟨Nat.le_trans (upV_grow h1) a,b⟩
   ·cases h;exact⟨Nat.le_refl _,h0⟩
  ·cases h
theorem downS_ok {rows cols:Nat}:∀(k:Nat) (row col:Int) (s:PS) (x:Int×Int×PS),downS rows cols k row col s=some x→s.evs.length≤x.2.2.evs.length∧okRC x.1 x.2.1
 |0,_,_,_,_,h=>by cases h
 |k+1,row,col,s,x,h=>by
  rw[downS]at h
  split at h
  ·rename_i h0
   split at h
   ·obtain⟨s1,h1,h2⟩:=Option.bind_eq_some_iff.1 h
    obtain⟨a,b⟩:=downS_ok k _ _ _ _ h2
    exact⟨Nat.le_trans (downV_grow h1) a,b⟩
   ·cases h;exact⟨Nat.le_refl _,h0⟩
  ·cases h
theorem outS_step {rows cols k:Nat} {row col:Int} {s f:PS} (h:outS rows cols (k+1) row col s=some f):
 okRC row col∧((¬(row<rows∨col<cols)∧s=f)∨((row<rows∨col<cols)∧∃s1 x y,cornerG rows cols row col s=some s1∧upS rows cols 200 row col s1=some x∧downS rows cols 200 (x.1+1) (x.2.1+3) x.2.2=some y∧outS rows cols k (y.1+3) (y.2.1+1) y.2.2=some f)):=by
 rw[outS]at h
 split at h
 ·rename_i h0
  refine⟨h0,?_⟩
  split at h
  ·rename_i h3
   obtain⟨s1,h1,h⟩:=Option.bind_eq_some_iff.1 h
   obtain⟨x,h2,h⟩:=Option.bind_eq_some_iff.1 h
   obtain⟨y,h4,h⟩:=Option.bind_eq_some_iff.1 h
   exact .inr ⟨h3,s1,x,y,h1,h2,h4,h⟩
  ·rename_i h3
   exact .inl ⟨h3,by simpa using h⟩
 ·cases h
theorem outS_grow {rows cols:Nat}:∀(k:Nat) (row col:Int) (s f:PS),outS rows cols k row col s=some f→s.evs.length≤f.evs.length
 |0,_,_,_,_,h=>by cases h
 |k+1,row,col,s,f,h=>by
  obtain⟨_,h5⟩:=outS_step h
  rcases h5 with⟨_,rfl⟩|⟨_,s1,x,y,h1,h2,h4,h5⟩
  ·exact Nat.le_refl _
  ·have a:=cornerG_grow h1
   have b:=(upS_ok _ _ _ _ _ h2).1
   have c:=(downS_ok _ _ _ _ _ h4).1
   have:=outS_grow k _ _ _ _ h5;omega
def inR0 (j:Nat):Nat:=syN j 0-2*syN j 2
def inC0 (j:Nat):Nat:=syN j 1-2*syN j 3
theorem in_ok:∀j,j<29→(inR0 j,inC0 j,syN j 4+syN j 5)∈sizes∧2*syN j 2≤syN j 0∧2*syN j 3≤syN j 1∧syN j 0≤200∧syN j 1≤200:=by decide+kernel
theorem sizes_bd:∀x∈sizes,6≤x.1∧x.1≤120∧6≤x.2.1∧x.2.1≤120∧x.2.2≤1800∧x.1*x.2.1≤14400:=by decide+kernel
theorem placeS_ok {rows cols n:Nat} (hx:(rows,cols,n)∈sizes):∃f g,placeS rows cols=some f∧placeG rows cols=some g∧f.evs=g.evs∧g.evs.length=n∧(fullB rows cols f.occ=true∨holeB rows cols f.occ=true):=by
 have h:=chkS_ok _ hx
 obtain⟨g,hg,hl⟩:=placeG_ok _ hx
 unfold chkS at h
 simp only at h hg hl
 rw[hg]at h
 cases hs:placeS rows cols with
 |none=>rw[hs]at h;cases h
 |some f=>
  rw[hs]at h
  simp only[Bool.and_eq_true,Bool.or_eq_true]at h
  exact⟨f,g,rfl,hg,evsB_eq _ _ h.1,hl,h.2⟩
theorem inner_calls {j:Nat} (hj:j<29) (w:World):Calls Tryz.prog 48 #[syV j] w fun e w'=>e= .returned (.tuple #[.int .i64 (inR0 j),.int .i64 (inC0 j)])∧Below w.heap.size w w':=by
 obtain⟨_,a1,a2,a3,a4⟩:=in_ok j hj
 have e1:((inR0 j:Nat):Int)=(syN j 0:Int)-2*(syN j 2:Int):=by unfold inR0;omega
 have e2:((inC0 j:Nat):Int)=(syN j 1:Int)-2*(syN j 3:Int):=by unfold inC0;omega
 rw[e1,e2]
 unfold syV
 obtain⟨l0,l1,l2,l3,l4,l5,l6⟩:=cells7 (new_last (w:=w) rfl (.cells #[.int .i64 (syN j 0),.int .i64 (syN j 1),.int .i64 (syN j 2),.int .i64 (syN j 3),.int .i64 (syN j 4),.int .i64 (syN j 5),.int .i64 (syN j 6)] 30))
 clear e1 e2
 generalize syN j 0=x0 at*
 generalize syN j 1=x1 at*
 generalize syN j 2=x2 at*
 generalize syN j 3=x3 at*
 have i1:IntKind.i64.wrap (2*(x2:Int))=2*(x2:Int):=IntWalk.i64_in _ (by omega)
 have i2:IntKind.i64.wrap (2*(x3:Int))=2*(x3:Int):=IntWalk.i64_in _ (by omega)
 have i3:IntKind.i64.wrap ((x0:Int)-2*(x2:Int))=(x0:Int)-2*(x2:Int):=IntWalk.i64_in _ (by omega)
 have i4:IntKind.i64.wrap ((x1:Int)-2*(x3:Int))=(x1:Int)-2*(x3:Int):=IntWalk.i64_in _ (by omega)
 go_enter Tryz.func48,Tryz.ntmps48
 go_wp2
 go_quiet (fail)
 go_wp2
 go_ret2
 exact⟨rfl,below_dr ((Below.refl _ _).alloc (Nat.le_refl _) _) _⟩
end
section
open Go.RowKit
def PIS (w0 wx:World) (b bb rows cols:Nat) (s:PS):Prop:=OccI (foldS rows cols s.evs) s.occ∧SMem w0 wx b bb rows cols (foldS rows cols s.evs)
theorem PIS.drewN {w0 wx:World} {b bb rows cols:Nat} {s:PS} (h:PIS w0 wx b bb rows cols s) (n:Nat):PIS w0 (wx.drewN n) b bb rows cols s:=⟨h.1,h.2.drewN n⟩
theorem visit_idx {rows cols:Nat} {ro co:Int} (z1:0≤ro) (z2:ro<rows) (z3:0≤co) (z4:co<cols):ro*(cols:Int)+co=(((ro*(cols:Int)+co).toNat:Nat):Int)∧(ro*(cols:Int)+co).toNat<rows*cols:=by
 have h0:=Int.mul_nonneg z1 (by omega:(0:Int)≤(cols:Int))
 have h2:=Int.mul_le_mul_of_nonneg_right (show ro+1≤(rows:Int) by omega) (by omega:(0:Int)≤(cols:Int))
 rw[Int.add_mul]at h2
 have h3:((rows*cols:Nat):Int)=(rows:Int)*(cols:Int):=by simp
 omega
theorem neg_dec (x:Int):decide (x<0)= !decide (0≤x):=by by_cases h:x<0<;>simp[h]<;>omega
def FreeP (v:Bool) (w:World) (e:Ending) (w':World):Prop:=e= .returned (.bool v)∧∃m,w'=w.drewN m
theorem free_visit {w0 w:World} {b bb rows cols:Nat} {s:PS} (hP:PIS w0 w b bb rows cols s) {ro co:Int} (z1:0≤ro) (z2:ro<rows) (z3:0≤co) (z4:co<cols):
 Calls Tryz.prog 50 #[.pointer (some ⟨b,0,none⟩),.int .i64 ro,.int .i64 co] w (FreeP (!s.occ.testBit (ro*(cols:Int)+co).toNat) w):=by
 obtain⟨e1,e2⟩:=visit_idx z1 z2 z3 z4
 have hl:(ro*(cols:Int)+co).toNat<(foldS rows cols s.evs).length:=by rw[length_foldS];exact e2
 have r1:=hP.2.r1
 have c1:=hP.2.c1
 have ho:=hP.1 _ hl
 refine(free_calls hP.2 ro co _ (by omega) (by omega) (by omega) (by omega) e1 hl).mono ?_
 rintro e w' ⟨rfl,h⟩
 refine⟨?_,h⟩
 rw[←ho]
 rw[neg_dec]
def PutP (w0:World) (b bb rows cols:Nat) (s:PS) (e:Ending) (w':World):Prop:=e= .returned (.tuple #[])∧PIS w0 w' b bb rows cols s
theorem utah_visit {w0 w:World} {b bb rows cols:Nat} {s s':PS} (hP:PIS w0 w b bb rows cols s) {ro co:Int} (z1:0≤ro) (z2:ro<rows) (z3:0≤co) (z4:co<cols) (hp:putEv rows cols (0,ro,co) s=some s') (hl:s.evs.length≤4000):
 Calls Tryz.prog 51 #[.pointer (some ⟨b,0,none⟩),.int .i64 ro,.int .i64 co,.int .i64 (s.evs.length:Nat)] w (PutP w0 b bb rows cols s'):=by
 obtain⟨v1,v2,v3⟩:=putEv_okS hp hP.1
 have r1:=hP.2.r1
 have c1:=hP.2.c1
 refine(utahS_calls hP.2 ro co s.evs.length (by omega) (by omega) (by omega) (by omega) v2 hl).mono ?_
 rintro e w' ⟨rfl,h⟩
 exact⟨rfl,v3,by rw[v1];exact h⟩
def CornP (w0:World) (b bb rows cols:Nat) (v:Bool) (s:PS) (e:Ending) (w':World):Prop:=e= .returned (.bool v)∧PIS w0 w' b bb rows cols s
theorem corner_visit {w0 w:World} {b bb rows cols:Nat} {s s':PS} (hP:PIS w0 w b bb rows cols s) {ro co:Int} (ho:okRC ro co) (hp:cornerG rows cols ro co s=some s') (hl:s.evs.length≤4000):
 Calls Tryz.prog 49 #[.pointer (some ⟨b,0,none⟩),.int .i64 ro,.int .i64 co,.int .i64 (s.evs.length:Nat)] w (CornP w0 b bb rows cols (decide (cornerOf rows cols ro co≠0)) s'):=by
 obtain⟨o1,o2,o3,o4⟩:=ho
 by_cases hc:cornerOf rows cols ro co=0
 ·have e1:s=s':=by unfold cornerG at hp;rw[if_pos hc]at hp;exact Option.some.inj hp
  subst e1
  refine(cornersS_calls hP.2 ro co s.evs.length (by omega) (by omega) (fun h=>absurd hc h) hl).mono ?_
  rintro e w' ⟨rfl,h⟩
  rw[if_pos hc]at h
  exact⟨rfl,hP.1,h⟩
 ·have e1:putEv rows cols (cornerOf rows cols ro co,0,0) s=some s':=by unfold cornerG at hp;rw[if_neg hc]at hp;exact hp
  obtain⟨v1,v2,v3⟩:=putEv_okS e1 hP.1
  refine(cornersS_calls hP.2 ro co s.evs.length (by omega) (by omega) (fun _=>v2) hl).mono ?_
  rintro e w' ⟨rfl,h⟩
  rw[if_neg hc]at h
  exact⟨rfl,v3,by rw[v1];exact h⟩
theorem corner_len {rows cols:Nat} {s s':PS} {ro co:Int} (hp:cornerG rows cols ro co s=some s'):(cornerOf rows cols ro co=0→s'=s)∧(cornerOf rows cols ro co≠0→s'.evs.length=s.evs.length+1):=by
 constructor
 ·intro hc;unfold cornerG at hp;rw[if_pos hc]at hp;exact(Option.some.inj hp).symm
 ·intro hc;unfold cornerG at hp;rw[if_neg hc]at hp;rw[putEv_evs hp];rfl
def PlacedPost (rows cols:Nat) (f:PS) (w:World) (e:Ending) (w':World):Prop:=
 ∃bb,e= .returned (.tuple #[.slice (some ⟨bb,0,none⟩) (rows*cols) (rows*cols),.int .i64 rows,.int .i64 cols])∧Row w' bb .i64 3 (finishS rows cols (foldS rows cols f.evs))∧OccI (foldS rows cols f.evs) f.occ∧Below w.heap.size w w'∧w.heap.size≤bb
set_option maxRecDepth 100000 in
set_option maxHeartbeats 16000000 in
theorem placed_calls {j rows cols:Nat} (hj:j<29) (w:World) (hrows:inR0 j=rows) (hcols:inC0 j=cols) (f:PS) (hf:placeS rows cols=some f) (hfl:f.evs.length≤4000):
 Calls Tryz.prog 22 #[syV j] w (PlacedPost rows cols f w):=by
 obtain⟨hx,_⟩:=in_ok j hj
 obtain⟨r0,r1,c0,c1,_,hmul⟩:=sizes_bd _ hx
 have hin:∀w,Calls Tryz.prog 48 #[syV j] w fun e w'=>e= .returned (.tuple #[.int .i64 rows,.int .i64 cols])∧Below w.heap.size w w':=fun w=>by
  rw[←hrows,←hcols];exact inner_calls hj w
 rw[hrows,hcols]at*
 simp only at r0 r1 c0 c1 hmul
 obtain⟨n,hn⟩:∃n,n=rows*cols:=⟨_,rfl⟩
 rw[←hn]at hmul
 have hb2:(rows:Int)*(cols:Int)=(n:Int):=by rw[hn];simp
 have hm:=make28 (n:Int) (by omega) (by omega)
 rw[Int.toNat_natCast]at hm
 have HN:=Lib.hid hn
 have HF:=Lib.hid hf
 have HIN:=Lib.hid hin
 clear hn hf hrows hcols hx hin
 unfold syV at HIN ⊢
 go_enter Tryz.func22,Tryz.ntmps22
 go_wp2_with (go_at_call 48;refine(HIN.out _).mono ?_;rintro e w1 ⟨rfl,hb⟩;have HB:=Lib.hid hb;clear hb)
 have HBW:=Lib.hid (((Below.refl w.heap.size w).alloc (Nat.le_refl _) _).trans (HB.out.mono (by simp)))
 clear HB
 go_loopw [28] (fun i wr=>∃k:Nat,k≤n∧i= .int .i64 k∧Hid (wr.heap[w1.heap.size+1]? =some (.cells #[.int .i64 rows,.int .i64 cols,.slice (some ⟨w1.heap.size,0,none⟩) n n] 84))∧Hid (Row wr w1.heap.size .i64 3 (upTo n k))∧Hid (Below w1.heap.size w1 wr)) (fun i _=>n-(intOf i).toNat)
 case atStart=>
  refine⟨0,by omega,rfl,new_last (by simp) _,?_,((Below.refl _ _).alloc (Nat.le_refl _) _).alloc (by simp) _⟩
  rw[upTo_zero]
  exact(Row.new _ _ _ _).alloc _
 case round=>
  obtain⟨k,hk,rfl,h1,h2,h3⟩:=hrel
  have k3:wr.cell? ⟨w1.heap.size+1,2,none⟩=some (.slice (some ⟨w1.heap.size,0,none⟩) n n):=by rw[cell_blk h1.out];rfl
  by_cases hlt:k<n
  ·have f2:=h2.out.free k
   have cx:=h2.out.cell (i:=k) (by rw[upTo_len hk];exact hlt)
   have S:=h2.out.set k (-1)
   rw[upTo_set hlt]at S
   have SS:=Lib.hid S
   clear S
   have S1:=Lib.hid (show (wr.setCell ⟨w1.heap.size,k,none⟩ (.int .i64 (-1))).heap[w1.heap.size+1]? =some (.cells #[.int .i64 rows,.int .i64 cols,.slice (some ⟨w1.heap.size,0,none⟩) n n] 84) by rw[Below.heap_setCell _ _ _ _ (by simp)];exact h1.out)
   have S2:=Lib.hid (h3.out.setCell (p:=⟨w1.heap.size,k,none⟩) (Nat.le_refl _) (.int .i64 (-1)))
   go_wp2
   exact⟨⟨k+1,by omega,by go_num,S1,SS,S2⟩,by simp[intOf];omega⟩
  ·obtain rfl:n=k:=by omega
   clear k3
   have hS:SMem w1 wr (w1.heap.size+1) w1.heap.size rows cols (foldS rows cols []):=by
    have hlen:(foldS rows cols []).length=n:=by rw[foldS,List.length_replicate,HN.out]
    have hfe:foldS rows cols []=upTo n n:=by rw[upTo_full,foldS,HN.out]
    refine⟨?_,?_,h3.out,Nat.le_refl _,by omega,by omega,?_,r0,by omega,c0,by omega⟩
    ·rw[hlen];exact h1.out
    ·rw[hfe];exact h2.out
    ·rw[hlen,HN.out]
   have hP:PIS w1 wr (w1.heap.size+1) w1.heap.size rows cols ⟨0,[]⟩:=⟨OccI.initS rows cols,hS⟩
   obtain⟨wo,rfl⟩:∃wo:World,wo=wr:=⟨_,rfl⟩
   clear h1 h2 h3 hS hlt hk
   go_wp2
   go_loopg [7,8,9] 100 (fun k r c p wx=>∃(s:PS) (row col:Int),p= .int .i64 (s.evs.length:Nat)∧r= .int .i64 row∧c= .int .i64 col∧Hid (outS rows cols k row col s=some f)∧PIS w1 wx (w1.heap.size+1) w1.heap.size rows cols s)
   case atStart=>exact⟨⟨0,[]⟩,4,0,rfl,rfl,rfl,HF,hP⟩
   case round=>
    obtain⟨s,row,col,rfl,rfl,rfl,HO,hP⟩:=hrel
    rcases gk with _|k
    ·have:=HO.out;simp[outS]at this
    ·obtain⟨hok,h5⟩:=outS_step HO.out
     have hgr:=outS_grow _ _ _ _ _ HO.out
     obtain⟨o1,o2,o3,o4⟩:=id hok
     rcases h5 with⟨hnc,rfl⟩|⟨hcn,s1,x,y,g1,g2,g3,g4⟩
     ·have hS:=hP.2
      have hocc:=hP.1
      have x1:¬row<(rows:Int):=fun h=>hnc (.inl h)
      have x2:¬col<(cols:Int):=fun h=>hnc (.inr h)
      obtain⟨bits,hbits⟩:∃bits,bits=foldS rows cols s.evs:=⟨_,rfl⟩
      rw[←hbits]at hS
      have hlen:bits.length=n:=by rw[hS.len,HN.out]
      have hcn:6*cols≤n:=by rw[HN.out];exact Nat.mul_le_mul_right _ r0
      have K2:∀m,(wr.drewN m).cell? ⟨w1.heap.size+1,2,none⟩=some (.slice (some ⟨w1.heap.size,0,none⟩) n n):=fun m=>by rw[(hS.drewN m).k2,hlen]
      obtain⟨hn1,hn2,_,_⟩:=last_idx r0 c0
      rw[←HN.out]at hn1
      have HN1:=Lib.hid hn1
      have HBI:=Lib.hid hbits
      have HLEN:=Lib.hid hlen
      have HS:=Lib.hid hS
      have HOC:=Lib.hid hocc
      clear hnc hP hn1 hn2 hbits hS hocc HF HIN HO
      by_cases hd:bits.getD (n-1) 0<0
      ·obtain⟨m1,hm1⟩:∃m1:Nat,m1=n-2:=⟨_,rfl⟩
       obtain⟨m2,hm2⟩:∃m2:Nat,m2=n-cols-1:=⟨_,rfl⟩
       have i1:IntKind.i64.wrap ((n:Int)-2)=(m1:Int):=by rw[IntWalk.i64_in _ (by omega)];omega
       have i2:IntKind.i64.wrap ((n:Int)-(cols:Int))=(n:Int)-(cols:Int):=IntWalk.i64_in _ (by omega)
       have i3:IntKind.i64.wrap ((n:Int)-(cols:Int)-1)=(m2:Int):=by rw[IntWalk.i64_in _ (by omega)];omega
       have j1:m1<n:=by omega
       have j2:m2<n:=by omega
       have hne:m1≠m2:=by omega
       have HD:=Lib.hid (show decide (bits.getD (n-1) 0<0)=true by simpa using hd)
       have HM1:=Lib.hid hm1
       have HM2:=Lib.hid hm2
       clear hd hm1 hm2
       go_wp2_with (go_at_call 50;(refine(free_calls HS.out _ _ (n-1) (by omega) (by omega) (by omega) (by omega) HN1.out (by omega)).mono ?_;rintro e w' ⟨rfl,m,rfl⟩;rw[HD.out]))
       have HSd:=HS.out.drewN m
       generalize wr.drewN m=wd at HSd K2 ⊢
       have kd:wd.cell? ⟨w1.heap.size+1,2,none⟩=some (.slice (some ⟨w1.heap.size,0,none⟩) n n):=by rw[HSd.k2,HLEN.out]
       have cx1:=HSd.row.cell (i:=m1) (by omega)
       have cx2:=HSd.row.cell (i:=m2) (by omega)
       have fx1:=HSd.row.free m1
       have fx2:=HSd.row.free m2
       have S1:=HSd.set m1 (-2)
       have S2:=HSd.set m2 (-2)
       have kd1:(wd.setCell ⟨w1.heap.size,m1,none⟩ (.int .i64 (-2))).cell? ⟨w1.heap.size+1,2,none⟩=some (.slice (some ⟨w1.heap.size,0,none⟩) n n):=by rw[S1.k2,List.length_set,HLEN.out]
       have kd2:(wd.setCell ⟨w1.heap.size,m2,none⟩ (.int .i64 (-2))).cell? ⟨w1.heap.size+1,2,none⟩=some (.slice (some ⟨w1.heap.size,0,none⟩) n n):=by rw[S2.k2,List.length_set,HLEN.out]
       have fy2:=S1.row.free m2
       have fy1:=S2.row.free m1
       have cy2:=S1.row.cell (i:=m2) (by rw[List.length_set];omega)
       have cy1:=S2.row.cell (i:=m1) (by rw[List.length_set];omega)
       have T1:=Lib.hid (S1.set m2 (-2))
       have HFS:=Lib.hid (show finishS rows cols bits=(bits.set m1 (-2)).set m2 (-2) by unfold finishS;rw[←HN.out,if_pos (by simpa using HD.out),HM1.out,HM2.out])
       clear S1 S2 HSd K2
       go_region
       have kf:((wd.setCell ⟨w1.heap.size,m1,none⟩ (.int .i64 (-2))).setCell ⟨w1.heap.size,m2,none⟩ (.int .i64 (-2))).cell? ⟨w1.heap.size+1,2,none⟩=some (.slice (some ⟨w1.heap.size,0,none⟩) n n):=by rw[T1.out.k2,List.length_set,List.length_set,HLEN.out]
       go_wp2
       refine bodyPost_ret (v:= .tuple #[.slice (some ⟨w1.heap.size,0,none⟩) n n,.int .i64 rows,.int .i64 cols]) (by simp[results,Tryz.results22,go_sem]) rfl ⟨w1.heap.size,by rw[HN.out],?_,HOC.out,HBW.out.trans (T1.out.drew.below.mono HBW.out.size),HBW.out.size⟩
       rw[←HBI.out,HFS.out]
       exact T1.out.drew.row
      ·have HD:=Lib.hid (show decide (bits.getD (n-1) 0<0)=false by simpa using hd)
       have HFS:=Lib.hid (show finishS rows cols bits=bits by unfold finishS;rw[←HN.out,if_neg hd])
       clear hd
       go_wp2_with (go_at_call 50;(refine(free_calls HS.out _ _ (n-1) (by omega) (by omega) (by omega) (by omega) HN1.out (by omega)).mono ?_;rintro e w' ⟨rfl,m,rfl⟩;rw[HD.out]))
       refine bodyPost_ret (v:= .tuple #[.slice (some ⟨w1.heap.size,0,none⟩) n n,.int .i64 rows,.int .i64 cols]) (by simp[results,Tryz.results22,go_sem]) rfl ⟨w1.heap.size,by rw[HN.out],?_,HOC.out,HBW.out.trans ((HS.out.drewN m).below.mono HBW.out.size),HBW.out.size⟩
       rw[←HBI.out,HFS.out]
       exact(HS.out.drewN m).row
     ·have G1:=Lib.hid g1
      have G2:=Lib.hid g2
      have G3:=Lib.hid g3
      have G4:=Lib.hid g4
      have HOK:=Lib.hid hok
      clear g1 g2 g3 g4 hok HF HIN
      apply wp_seq_k
      intro K0 hK0
      go_cut [45] (fun c wx=>c= .bool true∧wx=wr)
      case first=>as_aux_lemma=>
       by_cases h1:row<(rows:Int)
       ·go_wp2
        go_meet
        case rel=>exact⟨rfl,rfl⟩
       ·have h2:col<(cols:Int):=by omega
        go_wp2
        go_meet
        case rel=>exact⟨rfl,rfl⟩
      case rest=>
       obtain⟨rfl,rfl⟩:=hcut
       refine hK0 _ _ ?_
       clear hK0
       refine wp_block ?_
       apply wp_seq_k
       intro K1 hK1
       have hsl:s.evs.length≤4000:=by omega
       have hx1:=(upS_ok _ _ _ _ _ G2.out)
       have hx2:=(downS_ok _ _ _ _ _ G3.out)
       have hx3:=outS_grow _ _ _ _ _ G4.out
       have hfx:x.2.2.evs.length≤4000:=by omega
       have hfy:y.2.2.evs.length≤4000:=by omega
       go_cut [9] (fun p wx=>p= .int .i64 (s1.evs.length:Nat)∧PIS w1 wx (w1.heap.size+1) w1.heap.size rows cols s1)
       case first=>as_aux_lemma=>
        obtain⟨hl0,hl1⟩:=corner_len G1.out
        have hcv:=corner_visit hP HOK.out G1.out hsl
        by_cases hc:cornerOf rows cols row col=0
        ·rw[decide_eq_false (by simpa using hc)]at hcv
         have HCV:=Lib.hid hcv
         have e1:=hl0 hc
         subst e1
         clear hl0 hl1 hc hcv
         go_wp2_with (go_at_call 49;refine(HCV.out).mono ?_;rintro e w' ⟨rfl,hp⟩)
         go_meet
         case rel=>exact⟨rfl,hp⟩
        ·rw[decide_eq_true (by simpa using hc)]at hcv
         have HCV:=Lib.hid hcv
         have HL:=Lib.hid (hl1 hc)
         clear hl0 hl1 hc hcv
         go_wp2_with (go_at_call 49;refine(HCV.out).mono ?_;rintro e w' ⟨rfl,hp⟩)
         go_meet
         case rel=>exact⟨by rw[HL.out];simp,hp⟩
       case rest=>
        obtain⟨rfl,hP1⟩:=hcut
        refine hK1 _ _ ?_
        clear hK1 hP
        apply wp_seq_k
        intro K2 hK2
        go_cut [7,8,9] (fun r c p wx=>p= .int .i64 (x.2.2.evs.length:Nat)∧r= .int .i64 x.1∧c= .int .i64 x.2.1∧PIS w1 wx (w1.heap.size+1) w1.heap.size rows cols x.2.2)
        case first=>as_aux_lemma=>
         go_wp2
         go_loopg [7,8,9] 200 (fun k r c p wx=>∃(su:PS) (ro co:Int),p= .int .i64 (su.evs.length:Nat)∧r= .int .i64 ro∧c= .int .i64 co∧Hid (upS rows cols k ro co su=some x)∧PIS w1 wx (w1.heap.size+1) w1.heap.size rows cols su)
         case atStart=>exact⟨s1,_,_,rfl,rfl,rfl,G2,hP1⟩
         case round=>
          clear hP1 G2
          obtain⟨su,ro,co,rfl,rfl,rfl,HU,hQ⟩:=hrel
          rcases gk with _|gk
          ·have:=HU.out;simp[upS]at this
          ·have hu:=HU.out
           rw[upS]at hu
           have hx:=(upS_ok _ _ _ _ _ HU.out).1
           have hsl:su.evs.length≤4000:=by omega
           split at hu
           ·rename_i hrc
            obtain⟨m1,m2,m3,m4⟩:=hrc
            split at hu
            ·rename_i hin
             obtain⟨b1,b2⟩:=hin
             obtain⟨s2,u1,u2⟩:=Option.bind_eq_some_iff.1 hu
             have U2:=Lib.hid u2
             clear hu u2 HU
             unfold upV at u1
             rw[if_pos ⟨m1,m2,m3,m4⟩]at u1
             by_cases hA:ro<(rows:Int)
             ·by_cases hB:0≤co
              ·rw[if_pos ⟨hA,hB⟩]at u1
               unfold visit at u1
               rw[if_pos ⟨by omega,by omega,by omega,by omega⟩]at u1
               by_cases tb:su.occ.testBit (ro*(cols:Int)+co).toNat=true
               ·rw[if_pos tb]at u1
                obtain rfl:=Option.some.inj u1
                have hfv:=free_visit hQ (show 0≤ro by omega) (show ro<rows by omega) (show 0≤co by omega) (show co<cols by omega)
                rw[tb]at hfv
                have HFV:=Lib.hid hfv
                clear tb u1 hfv
                go_wp2_with (go_at_call 50;refine(HFV.out).mono ?_;rintro e w' ⟨rfl,m,rfl⟩)
                go_roundg gk
                case measure=>omega
                case rel=>exact⟨su,_,_,rfl,rfl,rfl,U2,hQ.drewN m⟩
               ·rw[if_neg tb]at u1
                have hfv:=free_visit hQ (show 0≤ro by omega) (show ro<rows by omega) (show 0≤co by omega) (show co<cols by omega)
                rw[show su.occ.testBit (ro*(cols:Int)+co).toNat=false by simpa using tb]at hfv
                have HFV:=Lib.hid hfv
                have U1:=Lib.hid u1
                have hl2:s2.evs.length=su.evs.length+1:=by rw[putEv_evs u1];rfl
                have HL2:=Lib.hid hl2
                clear tb u1 hfv hl2
                go_wp2_with (first|(go_at_call 50;refine(HFV.out).mono ?_;rintro e w' ⟨rfl,m,rfl⟩)|(go_at_call 51;refine(utah_visit (hQ.drewN m) (by omega) (by omega) (by omega) (by omega) U1.out hsl).mono ?_;rintro e w' ⟨rfl,hp⟩))
                go_roundg gk
                case measure=>omega
                case rel=>exact⟨s2,_,_,by rw[HL2.out];simp,rfl,rfl,U2,hp⟩
              ·rw[if_neg (fun h=>hB h.2)]at u1
               obtain rfl:=Option.some.inj u1
               clear u1
               go_wp2
               go_roundg gk
               case measure=>omega
               case rel=>exact⟨su,_,_,rfl,rfl,rfl,U2,hQ⟩
             ·rw[if_neg (fun h=>hA h.1)]at u1
              obtain rfl:=Option.some.inj u1
              clear u1
              go_wp2
              go_roundg gk
              case measure=>omega
              case rel=>exact⟨su,_,_,rfl,rfl,rfl,U2,hQ⟩
            ·rename_i hin
             obtain rfl:=Option.some.inj hu
             clear hu HU hx
             by_cases hA:0≤ro
             ·have hB:¬(co<(cols:Int)):=fun h=>hin ⟨hA,h⟩
              clear hin
              go_wp2
              go_meet
              case rel=>exact⟨rfl,rfl,rfl,hQ⟩
             ·clear hin
              go_wp2
              go_meet
              case rel=>exact⟨rfl,rfl,rfl,hQ⟩
           ·cases hu
        case rest=>
         obtain⟨rfl,rfl,rfl,hP2⟩:=hcut
         refine hK2 _ _ ?_
         clear hK2 hP1
         obtain⟨q1,q2,q3,q4⟩:=hx1.2
         go_upto_block 6 with(fail)
         go_cut [7,8,9] (fun r c p wx=>p= .int .i64 (y.2.2.evs.length:Nat)∧r= .int .i64 y.1∧c= .int .i64 y.2.1∧PIS w1 wx (w1.heap.size+1) w1.heap.size rows cols y.2.2)
         case first=>as_aux_lemma=>
          go_wp2
          go_loopg [7,8,9] 200 (fun k r c p wx=>∃(su:PS) (ro co:Int),p= .int .i64 (su.evs.length:Nat)∧r= .int .i64 ro∧c= .int .i64 co∧Hid (downS rows cols k ro co su=some y)∧PIS w1 wx (w1.heap.size+1) w1.heap.size rows cols su)
          case atStart=>exact⟨x.2.2,_,_,rfl,rfl,rfl,G3,hP2⟩
          case round=>
           clear hP2 G3
           obtain⟨su,ro,co,rfl,rfl,rfl,HU,hQ⟩:=hrel
           rcases gk with _|gk
           ·have:=HU.out;simp[downS]at this
           ·have hu:=HU.out
            rw[downS]at hu
            have hx:=(downS_ok _ _ _ _ _ HU.out).1
            have hsl:su.evs.length≤4000:=by omega
            split at hu
            ·rename_i hrc
             obtain⟨m1,m2,m3,m4⟩:=hrc
             split at hu
             ·rename_i hin
              obtain⟨b1,b2⟩:=hin
              obtain⟨s2,u1,u2⟩:=Option.bind_eq_some_iff.1 hu
              have U2:=Lib.hid u2
              clear hu u2 HU
              unfold downV at u1
              rw[if_pos ⟨m1,m2,m3,m4⟩]at u1
              by_cases hA:0≤ro
              ·by_cases hB:co<(cols:Int)
               ·rw[if_pos ⟨hA,hB⟩]at u1
                unfold visit at u1
                rw[if_pos ⟨by omega,by omega,by omega,by omega⟩]at u1
                by_cases tb:su.occ.testBit (ro*(cols:Int)+co).toNat=true
                ·rw[if_pos tb]at u1
                 obtain rfl:=Option.some.inj u1
                 have hfv:=free_visit hQ (show 0≤ro by omega) (show ro<rows by omega) (show 0≤co by omega) (show co<cols by omega)
                 rw[tb]at hfv
                 have HFV:=Lib.hid hfv
                 clear tb u1 hfv
                 go_wp2_with (go_at_call 50;refine(HFV.out).mono ?_;rintro e w' ⟨rfl,m,rfl⟩)
                 go_roundg gk
                 case measure=>omega
                 case rel=>exact⟨su,_,_,rfl,rfl,rfl,U2,hQ.drewN m⟩
                ·rw[if_neg tb]at u1
                 have hfv:=free_visit hQ (show 0≤ro by omega) (show ro<rows by omega) (show 0≤co by omega) (show co<cols by omega)
                 rw[show su.occ.testBit (ro*(cols:Int)+co).toNat=false by simpa using tb]at hfv
                 have HFV:=Lib.hid hfv
                 have U1:=Lib.hid u1
                 have hl2:s2.evs.length=su.evs.length+1:=by rw[putEv_evs u1];rfl
                 have HL2:=Lib.hid hl2
                 clear tb u1 hfv hl2
                 go_wp2_with (first|(go_at_call 50;refine(HFV.out).mono ?_;rintro e w' ⟨rfl,m,rfl⟩)|(go_at_call 51;refine(utah_visit (hQ.drewN m) (by omega) (by omega) (by omega) (by omega) U1.out hsl).mono ?_;rintro e w' ⟨rfl,hp⟩))
                 go_roundg gk
                 case measure=>omega
                 case rel=>exact⟨s2,_,_,by rw[HL2.out];simp,rfl,rfl,U2,hp⟩
               ·rw[if_neg (fun h=>hB h.2)]at u1
                obtain rfl:=Option.some.inj u1
                clear u1
                go_wp2
                go_roundg gk
                case measure=>omega
                case rel=>exact⟨su,_,_,rfl,rfl,rfl,U2,hQ⟩
              ·rw[if_neg (fun h=>hA h.1)]at u1
               obtain rfl:=Option.some.inj u1
               clear u1
               go_wp2
               go_roundg gk
               case measure=>omega
               case rel=>exact⟨su,_,_,rfl,rfl,rfl,U2,hQ⟩
             ·rename_i hin
              obtain rfl:=Option.some.inj hu
              clear hu HU hx
              by_cases hA:ro<(rows:Int)
              ·have hB:¬(0≤co):=fun h=>hin ⟨hA,h⟩
               clear hin
               go_wp2
               go_meet
               case rel=>exact⟨rfl,rfl,rfl,hQ⟩
              ·clear hin
               go_wp2
               go_meet
               case rel=>exact⟨rfl,rfl,rfl,hQ⟩
            ·cases hu
         case rest=>
          obtain⟨rfl,rfl,rfl,hP3⟩:=hcut
          obtain⟨j1,j2,j3,j4⟩:=hx2.2
          go_wp2
          go_roundg k
          case measure=>omega
          case rel=>exact⟨y.2.2,_,_,rfl,rfl,rfl,G4,hP3⟩
end
end Go.Proofs.YtcnallabiffemaaGreatDoor
