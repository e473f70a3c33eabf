/- What a symbol's getters answer. -/
import Derived.Test.YtcnallabiffemaaGreatDoorProg
import Derived.WalkKit
import Derived.WalkSpells
import Derived.WalkLawsBesides
import Derived.RegionTactic
import Derived.LoopTactic
import Derived.BigQuiet
import Derived.Deep.QuietTactic
import Derived.Lib.Hide
import Derived.Laws.EntriesVeiled
import Derived.Laws.ResultCell
set_option linter.unusedVariables false
set_option linter.unusedSimpArgs false
namespace Go.Proofs.YtcnallabiffemaaGreatDoor
section
open Go.RowKit
def siC (r:Bool) (d e mw mh dr rd re:Int) (f g:Nat):Array Value:=
 #[.bool r,.int .i64 d,.int .i64 e,.int .i64 mw,.int .i64 mh,.int .i64 dr,.int .i64 rd,.int .i64 re,.func (.func f) #[] #[],.func (.func g) #[] #[]]
theorem newRS (r:Bool) (d e mw mh dr rd re:Int) (w:World):
 Calls Tryz.prog 122 #[.bool r,.int .i64 d,.int .i64 e,.int .i64 mw,.int .i64 mh,.int .i64 dr,.int .i64 rd,.int .i64 re] w fun en w'=>
  en= .returned (.pointer (some ⟨w.heap.size,0,none⟩))∧w.alloc (.cells (siC r d e mw mh dr rd re 143 144) 112)=w':=by
 go_enter Tryz.func122,Tryz.ntmps122
 go_wp2
 go_ret
 exact⟨rfl,rfl⟩
theorem newSI (r:Bool) (d e mw mh dr:Int) (w:World):
 Calls Tryz.prog 121 #[.bool r,.int .i64 d,.int .i64 e,.int .i64 mw,.int .i64 mh,.int .i64 dr] w fun en w'=>
  en= .returned (.pointer (some ⟨w.heap.size,0,none⟩))∧w.alloc (.cells (siC r d e mw mh dr d e 143 144) 112)=w':=by
 go_enter Tryz.func121,Tryz.ntmps121
 go_wp2_with (go_at_call 122;refine(newRS _ _ _ _ _ _ _ _ _).mono ?_;rintro e w' ⟨rfl,rfl⟩)
 go_ret
 exact⟨rfl,rfl⟩
theorem new144 (w:World):
 Calls Tryz.prog 123 #[] w fun en w'=>
  en= .returned (.pointer (some ⟨w.heap.size,0,none⟩))∧w.alloc (.cells (siC false 1558 620 22 22 36 (-1) 62 145 146) 112)=w':=by
 go_enter Tryz.func123,Tryz.ntmps123
 go_wp2_with (go_at_call 122;refine(newRS _ _ _ _ _ _ _ _ _).mono ?_;rintro e w' ⟨rfl,rfl⟩)
 go_ret
 exact⟨rfl,rfl⟩
end
section
open Go.RowKit
theorem newExc_calls (s:ByteArray) (v:Value) (w:World):
 Calls Tryz.prog 114 #[.string s,v] w fun en w'=>en= .returned (.agg #[.string s])∧Below w.heap.size w w':=by
 go_enter Tryz.func114,Tryz.ntmps114
 go_wp2
 refine bodyPost_ret (v:= .agg #[.string s]) ?_ rfl ⟨rfl,?_⟩
 ·simp[results,Tryz.results114,go_sem]
 ·exact(Below.refl _ _).alloc (Nat.le_refl _) _
theorem wrapExc_calls (s:ByteArray) (v:Value) (w:World):
 Calls Tryz.prog 131 #[.string s,v] w fun en w'=>en= .returned (.agg #[.string s])∧Below w.heap.size w w':=by
 go_enter Tryz.func131,Tryz.ntmps131
 go_wp2
 refine bodyPost_ret (v:= .agg #[.string s]) ?_ rfl ⟨rfl,?_⟩
 ·simp[results,Tryz.results131,go_sem]
 ·exact(Below.refl _ _).alloc (Nat.le_refl _) _
def IsErr (v:Value):Prop:=∃T x,v= .iface T x
theorem newWE_calls (v:Value) (w:World):
 Calls Tryz.prog 62 #[v] w fun en w'=>∃x,en= .returned (.iface 149 x)∧Below w.heap.size w w':=by
 go_enter Tryz.func62,Tryz.ntmps62
 go_wp2_with (go_at_call 114;refine(newExc_calls _ _ _).mono ?_;rintro e w' ⟨rfl,hb⟩)
 go_ret
 exact⟨_,rfl,hb⟩
theorem wrapWE_calls (v:Value) (w:World):
 Calls Tryz.prog 94 #[v] w fun en w'=>∃x,en= .returned (.iface 149 x)∧Below w.heap.size w w':=by
 go_enter Tryz.func94,Tryz.ntmps94
 go_wp2_with (go_at_call 131;refine(wrapExc_calls _ _ _).mono ?_;rintro e w' ⟨rfl,hb⟩)
 go_ret
 exact⟨_,rfl,hb⟩
end
section
open Go.RowKit
def symTab:List (Bool×Int×Int×Int×Int×Int×Int×Int):=[
 (false,3,5,8,8,1,3,5),(false,5,7,10,10,1,5,7),(true,5,7,16,6,1,5,7),(false,8,10,12,12,1,8,10),
 (true,10,11,14,6,2,10,11),(false,12,12,14,14,1,12,12),(true,16,14,24,10,1,16,14),
 (false,18,14,16,16,1,18,14),(false,22,18,18,18,1,22,18),(true,22,18,16,10,2,22,18),(false,30,20,20,20,1,30,20),
 (true,32,24,16,14,2,32,24),(false,36,24,22,22,1,36,24),(false,44,28,24,24,1,44,28),(true,49,28,22,14,2,49,28),
 (false,62,36,14,14,4,62,36),(false,86,42,16,16,4,86,42),(false,114,48,18,18,4,114,48),(false,144,56,20,20,4,144,56),(false,174,68,22,22,4,174,68),
 (false,204,84,24,24,4,102,42),(false,280,112,14,14,16,140,56),(false,368,144,16,16,16,92,36),(false,456,192,18,18,16,114,48),
 (false,576,224,20,20,16,144,56),(false,696,272,22,22,16,174,68),(false,816,336,24,24,16,136,56),(false,1050,408,18,18,36,175,68),
 (false,1304,496,20,20,36,163,62),(false,1558,620,22,22,36,-1,62)]
def siOf (i:Nat):Array Value:=
 let s:=symTab.getD i (false,0,0,0,0,0,0,0)
 siC s.1 s.2.1 s.2.2.1 s.2.2.2.1 s.2.2.2.2.1 s.2.2.2.2.2.1 s.2.2.2.2.2.2.1 s.2.2.2.2.2.2.2 (if i=29 then 145 else 143) (if i=29 then 146 else 144)
def allocs (w:World):List Obj→World
 |[]=>w
 |o::l=>allocs (w.alloc o) l
def symObjs:List Obj:=(List.range 30).map fun i=> .cells (siOf i) 112
def symPtrs (B:Nat):Array Value:=((List.range 30).map fun i=> .pointer (some ⟨B+i,0,none⟩)).toArray
set_option maxRecDepth 100000 in
set_option maxHeartbeats 4000000 in
theorem symbols_any (w:World):
 Calls Tryz.prog 71 #[] w fun en w'=>
  en= .returned (.slice (some ⟨w.heap.size+30,0,none⟩) 30 30)∧(allocs w symObjs).alloc (.cells (symPtrs w.heap.size) 75)=w':=by
 go_enter Tryz.func71,Tryz.ntmps71
 go_wp2_with (first|(go_at_call 121;refine(newSI _ _ _ _ _ _ _).mono ?_;rintro e w' ⟨rfl,rfl⟩)|(go_at_call 122;refine(newRS _ _ _ _ _ _ _ _ _).mono ?_;rintro e w' ⟨rfl,rfl⟩)|(go_at_call 123;refine(new144 _).mono ?_;rintro e w' ⟨rfl,rfl⟩))
 go_ret
 exact⟨rfl,rfl⟩
end
section
open Go.RowKit
theorem alloc_heap (w:World) (o:Obj):(w.alloc o).heap=w.heap.push o:=rfl
theorem allocs_heap (l:List Obj):∀w:World,(allocs w l).heap=w.heap++l.toArray:=by
 induction l with
 |nil=>intro w;simp[allocs]
 |cons o l ih=>intro w;rw[allocs,ih,alloc_heap];simp
theorem allocs_below (l:List Obj) (B:Nat):∀w:World,B≤w.heap.size→Below B w (allocs w l):=by
 induction l with
 |nil=>intro w _;exact Below.refl _ _
 |cons o l ih=>intro w h;exact((Below.refl _ _).alloc h o).trans (ih _ (by rw[alloc_heap];simp;omega))
theorem cell_blk {w:World} {b:Nat} {cs:Array Value} {T:TypeId} {fr:Nat×Nat} (h:w.heap[b]? =some (.cells cs T fr)) (o:Nat):w.cell? ⟨b,o,none⟩=cs[o]? :=by
 simp[World.cell?,h]
theorem frozen_blk {w:World} {b:Nat} {cs:Array Value} {T:TypeId} (h:w.heap[b]? =some (.cells cs T)) (o:Nat):w.frozen? ⟨b,o,none⟩=false:=by
 simp[World.frozen?,h]
structure SymsAt (w:World) (B:Nat):Prop where
 ptr:∀i,i<30→w.cell? ⟨B+30,i,none⟩=some (.pointer (some ⟨B+i,0,none⟩))
 si:∀i,i<30→w.heap[B+i]? =some (.cells (siOf i) 112)
theorem symbols_at (w:World):SymsAt ((allocs w symObjs).alloc (.cells (symPtrs w.heap.size) 75)) w.heap.size:=by
 have hs:(allocs w symObjs).heap.size=w.heap.size+30:=by rw[allocs_heap];simp[symObjs]
 constructor
 ·intro i hi
  have:((allocs w symObjs).alloc (.cells (symPtrs w.heap.size) 75)).heap[w.heap.size+30]? =some (.cells (symPtrs w.heap.size) 75):=by
   rw[alloc_heap,←hs];simp
  rw[cell_blk this]
  simp[symPtrs,hi]
 ·intro i hi
  rw[Below.heap_alloc _ _ _ (by omega),allocs_heap,Array.getElem?_append_right (by omega)]
  simp[symObjs,hi]
theorem symbols_calls (w:World):
 Calls Tryz.prog 71 #[] w fun en w'=>
  en= .returned (.slice (some ⟨w.heap.size+30,0,none⟩) 30 30)∧SymsAt w' w.heap.size∧Below w.heap.size w w'∧w'.heap.size=w.heap.size+31:=
 (symbols_any w).mono fun e w' ⟨he,hw⟩=>by
   subst hw
   exact⟨he,symbols_at w,(allocs_below _ _ w (Nat.le_refl _)).alloc (by rw[allocs_heap];simp) _,by rw[alloc_heap,Array.size_push,allocs_heap];simp[symObjs]⟩
def rectOf (i:Nat):Bool:=(symTab.getD i (false,0,0,0,0,0,0,0)).1
def dataOf (i:Nat):Int:=(symTab.getD i (false,0,0,0,0,0,0,0)).2.1
def fitsSym (data:Int) (shape:Nat) (i:Nat):Bool:= !(shape==1&&rectOf i)&& !(shape==2&& !rectOf i)&&decide (data≤dataOf i)
def lookSym (data:Int) (shape:Nat):Option Nat:=(List.range 30).find? (fitsSym data shape)
theorem si_rect {w:World} {b i:Nat} (h:w.heap[b]? =some (.cells (siOf i) 112)):w.cell? ⟨b,0,none⟩=some (.bool (rectOf i)):=by rw[cell_blk h];rfl
theorem si_data {w:World} {b i:Nat} (h:w.heap[b]? =some (.cells (siOf i) 112)):w.cell? ⟨b,1,none⟩=some (.int .i64 (dataOf i)):=by rw[cell_blk h];rfl
def LookPost (data:Int) (shape:Nat) (w:World) (e:Ending) (w':World):Prop:=
 Below w.heap.size w w'∧((∃i b,lookSym data shape=some i∧e= .returned (.tuple #[.pointer (some ⟨b,0,none⟩),.nilIface])∧w.heap.size≤b∧b<w'.heap.size∧w'.heap[b]? =some (.cells (siOf i) 112))∨
  (lookSym data shape=none∧∃T v,e= .returned (.tuple #[.pointer none,.iface T v])))
theorem look_some {data:Int} {shape k:Nat} (hk:k<30) (h:fitsSym data shape k=true) (hl:∀j,j<k→fitsSym data shape j=false):lookSym data shape=some k:=by
 unfold lookSym
 rw[List.find?_eq_some_iff_getElem]
 refine⟨h,k,by simpa using hk,by simp,fun j hj=>?_⟩
 simp[hl j hj]
theorem look_none {data:Int} {shape:Nat} (hl:∀j,j<30→fitsSym data shape j=false):lookSym data shape=none:=by
 unfold lookSym
 rw[List.find?_eq_none]
 intro j hj
 simp[hl j (by simpa using hj)]
theorem fitsSym0 (data:Int) (k:Nat):fitsSym data 0 k=decide (data≤dataOf k):=by simp[fitsSym]
theorem fitsSym1 (data:Int) (k:Nat):fitsSym data 1 k=(!rectOf k&&decide (data≤dataOf k)):=by simp[fitsSym]
theorem fitsSym2 (data:Int) (k:Nat):fitsSym data 2 k=(rectOf k&&decide (data≤dataOf k)):=by simp[fitsSym]
set_option maxRecDepth 100000 in
set_option maxHeartbeats 4000000 in
theorem lookup0 (data:Int) (w:World):
 Calls Tryz.prog 42 #[.int .i64 data,.int .i64 0,.pointer none,.pointer none,.bool true] w (LookPost data 0 w):=by
 go_enter Tryz.func42,Tryz.ntmps42
 go_wp2_with (go_at_call 71;refine(symbols_calls _).mono ?_;rintro e w1 ⟨rfl,hsy,hb,hz⟩)
 have hz':w.heap.size+31≤w1.heap.size:=by omega
 clear hz
 go_loop [16] (fun i=>∃k:Nat,k≤30∧i= .int .i64 k∧Hid (∀j,j<k→fitsSym data 0 j=false)) (fun i=>30-(intOf i).toNat)
 case atStart=>exact⟨0,by omega,rfl,fun j hj=>by omega⟩
 case round=>
  obtain⟨k,hk,rfl,hl⟩:=hrel
  by_cases hlt:k<30
  ·have hc:=hsy.ptr k hlt
   have hb0:=hsy.si k hlt
   have c0:=si_rect hb0
   have c1:=si_data hb0
   have hB:=Lib.hid hb0
   have hS:=Lib.hid hsy
   clear hb0 hsy
   cases hr:rectOf k<;>rw[hr]at c0<;>have hR:=Lib.hid hr<;>clear hr<;>by_cases hd:data≤dataOf k
   all_goals go_wp2
   ·go_ret2
    refine⟨hb,.inl ⟨k,_,look_some hlt (by simp[fitsSym0,hR.out,hd]) hl.out,rfl,by omega,by omega,hB.out⟩⟩
   ·go_round
    case rel=>
     refine⟨k+1,by omega,by go_num,fun j hj=>?_⟩
     rcases Nat.lt_succ_iff_lt_or_eq.1 hj with h|rfl
     ·exact hl.out j h
     ·simp[fitsSym0,hR.out,hd]
    case measure=>simp[intOf];omega
   ·go_ret2
    refine⟨hb,.inl ⟨k,_,look_some hlt (by simp[fitsSym0,hR.out,hd]) hl.out,rfl,by omega,by omega,hB.out⟩⟩
   ·go_round
    case rel=>
     refine⟨k+1,by omega,by go_num,fun j hj=>?_⟩
     rcases Nat.lt_succ_iff_lt_or_eq.1 hj with h|rfl
     ·exact hl.out j h
     ·simp[fitsSym0,hR.out,hd]
    case measure=>simp[intOf];omega
  ·go_wp2_with (go_at_call 62;refine(newWE_calls _ _).mono ?_;rintro e w2 ⟨x,rfl,hb2⟩)
   go_ret2
   refine⟨?_,.inr ⟨look_none fun j hj=>hl.out j (by omega),_,_,rfl⟩⟩
   refine Below.trans ?_ (hb2.mono (by simp;omega))
   exact hb.alloc (by omega) _
set_option maxRecDepth 100000 in
set_option maxHeartbeats 4000000 in
theorem lookup1 (data:Int) (w:World):
 Calls Tryz.prog 42 #[.int .i64 data,.int .i64 1,.pointer none,.pointer none,.bool true] w (LookPost data 1 w):=by
 go_enter Tryz.func42,Tryz.ntmps42
 go_wp2_with (go_at_call 71;refine(symbols_calls _).mono ?_;rintro e w1 ⟨rfl,hsy,hb,hz⟩)
 have hz':w.heap.size+31≤w1.heap.size:=by omega
 clear hz
 go_loop [16] (fun i=>∃k:Nat,k≤30∧i= .int .i64 k∧Hid (∀j,j<k→fitsSym data 1 j=false)) (fun i=>30-(intOf i).toNat)
 case atStart=>exact⟨0,by omega,rfl,fun j hj=>by omega⟩
 case round=>
  obtain⟨k,hk,rfl,hl⟩:=hrel
  by_cases hlt:k<30
  ·have hc:=hsy.ptr k hlt
   have hb0:=hsy.si k hlt
   have c0:=si_rect hb0
   have c1:=si_data hb0
   have hB:=Lib.hid hb0
   have hS:=Lib.hid hsy
   clear hb0 hsy
   cases hr:rectOf k<;>rw[hr]at c0<;>have hR:=Lib.hid hr<;>clear hr<;>by_cases hd:data≤dataOf k
   all_goals go_wp2
   ·go_ret2
    refine⟨hb,.inl ⟨k,_,look_some hlt (by simp[fitsSym1,hR.out,hd]) hl.out,rfl,by omega,by omega,hB.out⟩⟩
   ·go_round
    case rel=>
     refine⟨k+1,by omega,by go_num,fun j hj=>?_⟩
     rcases Nat.lt_succ_iff_lt_or_eq.1 hj with h|rfl
     ·exact hl.out j h
     ·simp[fitsSym1,hR.out,hd]
    case measure=>simp[intOf];omega
   ·go_round
    case rel=>
     refine⟨k+1,by omega,by go_num,fun j hj=>?_⟩
     rcases Nat.lt_succ_iff_lt_or_eq.1 hj with h|rfl
     ·exact hl.out j h
     ·simp[fitsSym1,hR.out,hd]
    case measure=>simp[intOf];omega
   ·go_round
    case rel=>
     refine⟨k+1,by omega,by go_num,fun j hj=>?_⟩
     rcases Nat.lt_succ_iff_lt_or_eq.1 hj with h|rfl
     ·exact hl.out j h
     ·simp[fitsSym1,hR.out,hd]
    case measure=>simp[intOf];omega
  ·go_wp2_with (go_at_call 62;refine(newWE_calls _ _).mono ?_;rintro e w2 ⟨x,rfl,hb2⟩)
   go_ret2
   refine⟨?_,.inr ⟨look_none fun j hj=>hl.out j (by omega),_,_,rfl⟩⟩
   refine Below.trans ?_ (hb2.mono (by simp;omega))
   exact hb.alloc (by omega) _
set_option maxRecDepth 100000 in
set_option maxHeartbeats 4000000 in
theorem lookup2 (data:Int) (w:World):
 Calls Tryz.prog 42 #[.int .i64 data,.int .i64 2,.pointer none,.pointer none,.bool true] w (LookPost data 2 w):=by
 go_enter Tryz.func42,Tryz.ntmps42
 go_wp2_with (go_at_call 71;refine(symbols_calls _).mono ?_;rintro e w1 ⟨rfl,hsy,hb,hz⟩)
 have hz':w.heap.size+31≤w1.heap.size:=by omega
 clear hz
 go_loop [16] (fun i=>∃k:Nat,k≤30∧i= .int .i64 k∧Hid (∀j,j<k→fitsSym data 2 j=false)) (fun i=>30-(intOf i).toNat)
 case atStart=>exact⟨0,by omega,rfl,fun j hj=>by omega⟩
 case round=>
  obtain⟨k,hk,rfl,hl⟩:=hrel
  by_cases hlt:k<30
  ·have hc:=hsy.ptr k hlt
   have hb0:=hsy.si k hlt
   have c0:=si_rect hb0
   have c1:=si_data hb0
   have hB:=Lib.hid hb0
   have hS:=Lib.hid hsy
   clear hb0 hsy
   cases hr:rectOf k<;>rw[hr]at c0<;>have hR:=Lib.hid hr<;>clear hr<;>by_cases hd:data≤dataOf k
   all_goals go_wp2
   ·go_round
    case rel=>
     refine⟨k+1,by omega,by go_num,fun j hj=>?_⟩
     rcases Nat.lt_succ_iff_lt_or_eq.1 hj with h|rfl
     ·exact hl.out j h
     ·simp[fitsSym2,hR.out,hd]
    case measure=>simp[intOf];omega
   ·go_round
    case rel=>
     refine⟨k+1,by omega,by go_num,fun j hj=>?_⟩
     rcases Nat.lt_succ_iff_lt_or_eq.1 hj with h|rfl
     ·exact hl.out j h
     ·simp[fitsSym2,hR.out,hd]
    case measure=>simp[intOf];omega
   ·go_ret2
    refine⟨hb,.inl ⟨k,_,look_some hlt (by simp[fitsSym2,hR.out,hd]) hl.out,rfl,by omega,by omega,hB.out⟩⟩
   ·go_round
    case rel=>
     refine⟨k+1,by omega,by go_num,fun j hj=>?_⟩
     rcases Nat.lt_succ_iff_lt_or_eq.1 hj with h|rfl
     ·exact hl.out j h
     ·simp[fitsSym2,hR.out,hd]
    case measure=>simp[intOf];omega
  ·go_wp2_with (go_at_call 62;refine(newWE_calls _ _).mono ?_;rintro e w2 ⟨x,rfl,hb2⟩)
   go_ret2
   refine⟨?_,.inr ⟨look_none fun j hj=>hl.out j (by omega),_,_,rfl⟩⟩
   refine Below.trans ?_ (hb2.mono (by simp;omega))
   exact hb.alloc (by omega) _
theorem lookup_calls (data:Int) (shape:Nat) (hs:shape<3) (w:World):
 Calls Tryz.prog 42 #[.int .i64 data,.int .i64 shape,.pointer none,.pointer none,.bool true] w (LookPost data shape w):=by
 rcases(by omega:shape=0∨shape=1∨shape=2)with rfl|rfl|rfl
 ·exact lookup0 data w
 ·exact lookup1 data w
 ·exact lookup2 data w
end
section
open Go.RowKit
def vReg (dr:Int):Int:=if dr=1∨dr=2 then 1 else if dr=4 then 2 else if dr=16 then 4 else if dr=36 then 6 else 0
def hReg (dr:Int):Int:=if dr=1 then 1 else if dr=2∨dr=4 then 2 else if dr=16 then 4 else if dr=36 then 6 else 0
def okReg (dr:Int):Prop:=dr=1∨dr=2∨dr=4∨dr=16∨dr=36
theorem vreg_calls (b:Nat) (dr:Int) (w:World) (ho:okReg dr) (h:w.cell? ⟨b,5,none⟩=some (.int .i64 dr)):
 Calls Tryz.prog 74 #[.pointer (some ⟨b,0,none⟩)] w fun e w'=>e= .returned (.int .i64 (vReg dr))∧w=w':=by
 rcases ho with rfl|rfl|rfl|rfl|rfl
 all_goals
  go_enter Tryz.func74,Tryz.ntmps74
  go_wp2
  go_ret
  exact⟨rfl,rfl⟩
theorem hreg_calls (b:Nat) (dr:Int) (w:World) (ho:okReg dr) (h:w.cell? ⟨b,5,none⟩=some (.int .i64 dr)):
 Calls Tryz.prog 75 #[.pointer (some ⟨b,0,none⟩)] w fun e w'=>e= .returned (.int .i64 (hReg dr))∧w=w':=by
 rcases ho with rfl|rfl|rfl|rfl|rfl
 all_goals
  go_enter Tryz.func75,Tryz.ntmps75
  go_wp2
  go_ret
  exact⟨rfl,rfl⟩
theorem vreg_same (b:Nat) (dr:Int) (w:World) (ho:okReg dr) (h:w.cell? ⟨b,5,none⟩=some (.int .i64 dr)):
 Calls Tryz.prog 74 #[.pointer (some ⟨b,0,none⟩)] w fun e w'=>e= .returned (.int .i64 (vReg dr))∧w'=w:=(vreg_calls b dr w ho h).mono fun _ _ ⟨h1,h2⟩=>⟨h1,h2.symm⟩
theorem hreg_same (b:Nat) (dr:Int) (w:World) (ho:okReg dr) (h:w.cell? ⟨b,5,none⟩=some (.int .i64 dr)):
 Calls Tryz.prog 75 #[.pointer (some ⟨b,0,none⟩)] w fun e w'=>e= .returned (.int .i64 (hReg dr))∧w'=w:=(hreg_calls b dr w ho h).mono fun _ _ ⟨h1,h2⟩=>⟨h1,h2.symm⟩
def regOf (i:Nat):Int:=(symTab.getD i (false,0,0,0,0,0,0,0)).2.2.2.2.2.1
def mwOf (i:Nat):Int:=(symTab.getD i (false,0,0,0,0,0,0,0)).2.2.2.1
def mhOf (i:Nat):Int:=(symTab.getD i (false,0,0,0,0,0,0,0)).2.2.2.2.1
def checkOf (i:Nat):Int:=(symTab.getD i (false,0,0,0,0,0,0,0)).2.2.1
def rbdOf (i:Nat):Int:=(symTab.getD i (false,0,0,0,0,0,0,0)).2.2.2.2.2.2.1
def rbeOf (i:Nat):Int:=(symTab.getD i (false,0,0,0,0,0,0,0)).2.2.2.2.2.2.2
theorem okReg_of {i:Nat} (hi:i<30):okReg (regOf i):=by
 have:∀i,i<30→(regOf i=1∨regOf i=2∨regOf i=4∨regOf i=16∨regOf i=36):=by decide+kernel
 exact this i hi
theorem mw_bd {i:Nat} (hi:i<30):6≤mwOf i∧mwOf i≤24∧6≤mhOf i∧mhOf i≤24:=by
 have:∀i,i<30→(6≤mwOf i∧mwOf i≤24∧6≤mhOf i∧mhOf i≤24):=by decide+kernel
 exact this i hi
theorem reg_bd {dr:Int} (h:okReg dr):1≤vReg dr∧vReg dr≤6∧1≤hReg dr∧hReg dr≤6:=by
 rcases h with rfl|rfl|rfl|rfl|rfl<;>decide
section
variable {w:World} {b i:Nat} (h:w.heap[b]? =some (.cells (siOf i) 112))
include h
theorem si_check:w.cell? ⟨b,2,none⟩=some (.int .i64 (checkOf i)):=by rw[cell_blk h];rfl
theorem si_mw:w.cell? ⟨b,3,none⟩=some (.int .i64 (mwOf i)):=by rw[cell_blk h];rfl
theorem si_mh:w.cell? ⟨b,4,none⟩=some (.int .i64 (mhOf i)):=by rw[cell_blk h];rfl
theorem si_reg:w.cell? ⟨b,5,none⟩=some (.int .i64 (regOf i)):=by rw[cell_blk h];rfl
theorem si_rbd:w.cell? ⟨b,6,none⟩=some (.int .i64 (rbdOf i)):=by rw[cell_blk h];rfl
theorem si_rbe:w.cell? ⟨b,7,none⟩=some (.int .i64 (rbeOf i)):=by rw[cell_blk h];rfl
end
def dwOf (i:Nat):Int:=hReg (regOf i)*mwOf i
def dhOf (i:Nat):Int:=vReg (regOf i)*mhOf i
def swOf (i:Nat):Int:=dwOf i+hReg (regOf i)*2
def shOf (i:Nat):Int:=dhOf i+vReg (regOf i)*2
theorem mul_bd {a b:Int} {m n:Int} (h1:0≤a) (h2:a≤m) (h3:0≤b) (h4:b≤n):0≤a*b∧a*b≤m*n:=
 ⟨Int.mul_nonneg h1 h3,Int.mul_le_mul h2 h4 h3 (by omega)⟩
theorem dw_calls (b i:Nat) (w:World) (hi:i<30) (h:w.heap[b]? =some (.cells (siOf i) 112)):
 Calls Tryz.prog 63 #[.pointer (some ⟨b,0,none⟩)] w fun e w'=>e= .returned (.int .i64 (dwOf i))∧∃n,w'=w.drewN n:=by
 have c3:=si_mw h
 have c5:=si_reg h
 have ho:=okReg_of hi
 obtain⟨b1,b2,b3,b4⟩:=reg_bd ho
 obtain⟨m1,m2,m3,m4⟩:=mw_bd hi
 obtain⟨p1,p2⟩:=mul_bd (by omega:0≤hReg (regOf i)) b4 (by omega:0≤mwOf i) m2
 have H:=Lib.hid h
 clear h
 have HO:=Lib.hid ho
 clear ho
 go_enter Tryz.func63,Tryz.ntmps63
 go_wp2
 go_quiet ((go_at_call 75;exact Calls.quiet_of_same (hreg_same _ _ _ HO.out c5)))
 go_wp2
 go_ret
 exact⟨rfl,_,rfl⟩
theorem dh_calls (b i:Nat) (w:World) (hi:i<30) (h:w.heap[b]? =some (.cells (siOf i) 112)):
 Calls Tryz.prog 64 #[.pointer (some ⟨b,0,none⟩)] w fun e w'=>e= .returned (.int .i64 (dhOf i))∧∃n,w'=w.drewN n:=by
 have c3:=si_mh h
 have c5:=si_reg h
 have ho:=okReg_of hi
 obtain⟨b1,b2,b3,b4⟩:=reg_bd ho
 obtain⟨m1,m2,m3,m4⟩:=mw_bd hi
 obtain⟨p1,p2⟩:=mul_bd (by omega:0≤vReg (regOf i)) b2 (by omega:0≤mhOf i) m4
 have H:=Lib.hid h
 clear h
 have HO:=Lib.hid ho
 clear ho
 go_enter Tryz.func64,Tryz.ntmps64
 go_wp2
 go_quiet ((go_at_call 74;exact Calls.quiet_of_same (vreg_same _ _ _ HO.out c5)))
 go_wp2
 go_ret
 exact⟨rfl,_,rfl⟩
theorem blk_drewN {w:World} {n b:Nat} {o:Option Obj} (h:w.heap[b]? =o):(w.drewN n).heap[b]? =o:=h
theorem dw_bd {i:Nat} (hi:i<30):8≤dwOf i∧dwOf i≤132∧6≤dhOf i∧dhOf i≤132:=by
 have:∀i,i<30→8≤dwOf i∧dwOf i≤132∧6≤dhOf i∧dhOf i≤132:=by decide+kernel
 exact this i hi
theorem sw_calls (b i:Nat) (w:World) (hi:i<30) (h:w.heap[b]? =some (.cells (siOf i) 112)):
 Calls Tryz.prog 44 #[.pointer (some ⟨b,0,none⟩)] w fun e w'=>e= .returned (.int .i64 (swOf i))∧∃n,w'=w.drewN n:=by
 have ho:=okReg_of hi
 obtain⟨b1,b2,b3,b4⟩:=reg_bd ho
 obtain⟨d1,d2,d3,d4⟩:=dw_bd hi
 have H:=Lib.hid h
 clear h
 have HO:=Lib.hid ho
 clear ho
 go_enter Tryz.func44,Tryz.ntmps44
 go_wp2_with (first|(go_at_call 63;refine(dw_calls _ i _ hi H.out).mono ?_;rintro e w' ⟨rfl,n,rfl⟩)|(go_at_call 75;refine(hreg_calls _ _ _ HO.out (si_reg (blk_drewN H.out))).mono ?_;rintro e w' ⟨rfl,rfl⟩))
 go_ret
 exact⟨rfl,_,rfl⟩
theorem sh_calls (b i:Nat) (w:World) (hi:i<30) (h:w.heap[b]? =some (.cells (siOf i) 112)):
 Calls Tryz.prog 43 #[.pointer (some ⟨b,0,none⟩)] w fun e w'=>e= .returned (.int .i64 (shOf i))∧∃n,w'=w.drewN n:=by
 have ho:=okReg_of hi
 obtain⟨b1,b2,b3,b4⟩:=reg_bd ho
 obtain⟨d1,d2,d3,d4⟩:=dw_bd hi
 have H:=Lib.hid h
 clear h
 have HO:=Lib.hid ho
 clear ho
 go_enter Tryz.func43,Tryz.ntmps43
 go_wp2_with (first|(go_at_call 64;refine(dh_calls _ i _ hi H.out).mono ?_;rintro e w' ⟨rfl,n,rfl⟩)|(go_at_call 74;refine(vreg_calls _ _ _ HO.out (si_reg (blk_drewN H.out))).mono ?_;rintro e w' ⟨rfl,rfl⟩))
 go_ret
 exact⟨rfl,_,rfl⟩
end
end Go.Proofs.YtcnallabiffemaaGreatDoor
