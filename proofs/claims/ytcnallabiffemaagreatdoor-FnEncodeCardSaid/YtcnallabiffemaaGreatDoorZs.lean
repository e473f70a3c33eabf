/- The lookahead's walk, in pieces. -/
import Derived.Test.YtcnallabiffemaaGreatDoorZg9
import Derived.Test.YtcnallabiffemaaGreatDoorZr
set_option linter.unusedVariables false
set_option linter.unusedSimpArgs false
namespace Go.Proofs.YtcnallabiffemaaGreatDoor
section
open Go.RowKit
def ceilSem (x:Nat) (d:Ieee.Datum):Sem Value:=
 match d with
 | .nan s t=>
   if FloatKind.f64.format.quiet t=t then pure (.float .f64 x)else do
   let kept ←choose (.extern "math.Floor,Ceil,Trunc,RoundToEven.signallingNaN kept" 2)
   pure (.float .f64 (if kept==1 then x else FloatKind.f64.encode (.nan s (FloatKind.f64.format.quiet t))))
 |d=>pure (.float .f64 (FloatKind.f64.encode (d.integral .up)))
theorem archCeil_run {x:Nat} {s:Bool} {m:Nat} {p:Int} (hx:FloatKind.f64.decode x= .number s m p) (w:World):
 (callFunc 188 #[.float .f64 x]).run Tryz.prog w= .ok (.value (.float .f64 (ceilBits x))) w:=by
 have h:=run_callFunc_extern (P:=Tryz.prog) (f:=188) (e:=Extern.MathFloor.toIntegral "math.archCeil" .up) Tryz.func188 (by kernel_rfl) (by kernel_rfl) (by kernel_rfl) (by kernel_rfl) #[.float .f64 x] w
 rw[h]
 have e:Extern.MathFloor.toIntegral "math.archCeil" .up #[.float .f64 x]=pure (.float .f64 (ceilBits x)):=by
  have e2:Extern.MathFloor.toIntegral "math.archCeil" .up #[.float .f64 x]=ceilSem x (FloatKind.f64.decode x):=rfl
  rw[e2];unfold ceilBits;rw[hx];rfl
 rw[e];rfl
theorem ceil_calls {x:Nat} {s:Bool} {m:Nat} {p:Int} (hx:FloatKind.f64.decode x= .number s m p) (w:World):
 Calls Tryz.prog 181 #[.float .f64 x] w fun e w'=>e= .returned (.float .f64 (ceilBits x))∧w'=w:=by
 have h:=archCeil_run hx
 clear hx
 generalize ceilBits x=y at*
 go_enter Tryz.func181,Tryz.ntmps181
 go_wp2
 go_ret
 exact⟨rfl,rfl⟩
def clsOf (n:Nat):Nat:=if n=32 then 3 else if 48≤n∧n≤57 then 2 else if 65≤n∧n≤90 then 0 else if 97≤n∧n≤122 then 1 else 4
theorem cls_cases {n:Nat} (h:clsOf n<4):(clsOf n=3∧n=32)∨(clsOf n=2∧48≤n∧n≤57)∨(clsOf n=0∧65≤n∧n≤90)∨(clsOf n=1∧97≤n∧n≤122):=by
 unfold clsOf at*
 split
 ·left;exact⟨rfl,by assumption⟩
 ·split
  ·right;left;exact⟨rfl,by assumption⟩
  ·split
   ·right;right;left;exact⟨rfl,by assumption⟩
   ·split
    ·right;right;right;exact⟨rfl,by assumption⟩
    ·rename_i h1 h2 h3 h4
     rw[if_neg h1,if_neg h2,if_neg h3,if_neg h4]at h;omega
theorem ext_calls {n:Nat} {cl:Nat} (hc:clsOf n=cl) (h4:cl<4) (w:World):Calls Tryz.prog 177 #[.int .u8 n] w fun e w'=>e= .returned (.bool false)∧w'=w:=by
 subst hc
 rcases cls_cases h4 with⟨e,h1⟩|⟨e,h1,h2⟩|⟨e,h1,h2⟩|⟨e,h1,h2⟩<;>(try rw[e])<;>clear e h4
 ·subst h1
  go_enter Tryz.func177,Tryz.ntmps177
  go_wp2
  go_ret
  exact⟨rfl,rfl⟩
 ·have a128:((n:Int)==128)=false:=by simp;omega
  have b128:¬(128:Int)≤(n:Int):=by omega
  have c128:(n:Int)≤128:=by omega
  have a255:((n:Int)==255)=false:=by simp;omega
  have b255:¬(255:Int)≤(n:Int):=by omega
  have c255:(n:Int)≤255:=by omega
  clear h1 h2
  go_enter Tryz.func177,Tryz.ntmps177
  go_wp2
  go_ret
  exact⟨rfl,rfl⟩
 ·have a128:((n:Int)==128)=false:=by simp;omega
  have b128:¬(128:Int)≤(n:Int):=by omega
  have c128:(n:Int)≤128:=by omega
  have a255:((n:Int)==255)=false:=by simp;omega
  have b255:¬(255:Int)≤(n:Int):=by omega
  have c255:(n:Int)≤255:=by omega
  clear h1 h2
  go_enter Tryz.func177,Tryz.ntmps177
  go_wp2
  go_ret
  exact⟨rfl,rfl⟩
 ·have a128:((n:Int)==128)=false:=by simp;omega
  have b128:¬(128:Int)≤(n:Int):=by omega
  have c128:(n:Int)≤128:=by omega
  have a255:((n:Int)==255)=false:=by simp;omega
  have b255:¬(255:Int)≤(n:Int):=by omega
  have c255:(n:Int)≤255:=by omega
  clear h1 h2
  go_enter Tryz.func177,Tryz.ntmps177
  go_wp2
  go_ret
  exact⟨rfl,rfl⟩
theorem nC40_calls {n:Nat} {cl:Nat} (hc:clsOf n=cl) (h4:cl<4) (w:World):Calls Tryz.prog 182 #[.int .u8 n] w fun e w'=>e= .returned (.bool (!(cl==1)))∧w'=w:=by
 subst hc
 rcases cls_cases h4 with⟨e,h1⟩|⟨e,h1,h2⟩|⟨e,h1,h2⟩|⟨e,h1,h2⟩<;>(try rw[e])<;>clear e h4
 ·subst h1
  go_enter Tryz.func182,Tryz.ntmps182
  go_wp2
  go_ret
  exact⟨rfl,rfl⟩
 ·have a32:((n:Int)==32)=false:=by simp;omega
  have b32:(32:Int)≤(n:Int):=by omega
  have c32:¬(n:Int)≤32:=by omega
  have b48:(48:Int)≤(n:Int):=by omega
  have c57:(n:Int)≤57:=by omega
  have a65:((n:Int)==65)=false:=by simp;omega
  have b65:¬(65:Int)≤(n:Int):=by omega
  have c65:(n:Int)≤65:=by omega
  have a90:((n:Int)==90)=false:=by simp;omega
  have b90:¬(90:Int)≤(n:Int):=by omega
  have c90:(n:Int)≤90:=by omega
  clear h1 h2
  go_enter Tryz.func182,Tryz.ntmps182
  go_wp2
  go_ret
  exact⟨rfl,rfl⟩
 ·have a32:((n:Int)==32)=false:=by simp;omega
  have b32:(32:Int)≤(n:Int):=by omega
  have c32:¬(n:Int)≤32:=by omega
  have a48:((n:Int)==48)=false:=by simp;omega
  have b48:(48:Int)≤(n:Int):=by omega
  have c48:¬(n:Int)≤48:=by omega
  have a57:((n:Int)==57)=false:=by simp;omega
  have b57:(57:Int)≤(n:Int):=by omega
  have c57:¬(n:Int)≤57:=by omega
  have b65:(65:Int)≤(n:Int):=by omega
  have c90:(n:Int)≤90:=by omega
  clear h1 h2
  go_enter Tryz.func182,Tryz.ntmps182
  go_wp2
  go_ret
  exact⟨rfl,rfl⟩
 ·have a32:((n:Int)==32)=false:=by simp;omega
  have b32:(32:Int)≤(n:Int):=by omega
  have c32:¬(n:Int)≤32:=by omega
  have a48:((n:Int)==48)=false:=by simp;omega
  have b48:(48:Int)≤(n:Int):=by omega
  have c48:¬(n:Int)≤48:=by omega
  have a57:((n:Int)==57)=false:=by simp;omega
  have b57:(57:Int)≤(n:Int):=by omega
  have c57:¬(n:Int)≤57:=by omega
  have a65:((n:Int)==65)=false:=by simp;omega
  have b65:(65:Int)≤(n:Int):=by omega
  have c65:¬(n:Int)≤65:=by omega
  have a90:((n:Int)==90)=false:=by simp;omega
  have b90:(90:Int)≤(n:Int):=by omega
  have c90:¬(n:Int)≤90:=by omega
  clear h1 h2
  go_enter Tryz.func182,Tryz.ntmps182
  go_wp2
  go_ret
  exact⟨rfl,rfl⟩
theorem nTxt_calls {n:Nat} {cl:Nat} (hc:clsOf n=cl) (h4:cl<4) (w:World):Calls Tryz.prog 183 #[.int .u8 n] w fun e w'=>e= .returned (.bool (!(cl==0)))∧w'=w:=by
 subst hc
 rcases cls_cases h4 with⟨e,h1⟩|⟨e,h1,h2⟩|⟨e,h1,h2⟩|⟨e,h1,h2⟩<;>(try rw[e])<;>clear e h4
 ·subst h1
  go_enter Tryz.func183,Tryz.ntmps183
  go_wp2
  go_ret
  exact⟨rfl,rfl⟩
 ·have a32:((n:Int)==32)=false:=by simp;omega
  have b32:(32:Int)≤(n:Int):=by omega
  have c32:¬(n:Int)≤32:=by omega
  have b48:(48:Int)≤(n:Int):=by omega
  have c57:(n:Int)≤57:=by omega
  have a97:((n:Int)==97)=false:=by simp;omega
  have b97:¬(97:Int)≤(n:Int):=by omega
  have c97:(n:Int)≤97:=by omega
  have a122:((n:Int)==122)=false:=by simp;omega
  have b122:¬(122:Int)≤(n:Int):=by omega
  have c122:(n:Int)≤122:=by omega
  clear h1 h2
  go_enter Tryz.func183,Tryz.ntmps183
  go_wp2
  go_ret
  exact⟨rfl,rfl⟩
 ·have a32:((n:Int)==32)=false:=by simp;omega
  have b32:(32:Int)≤(n:Int):=by omega
  have c32:¬(n:Int)≤32:=by omega
  have a48:((n:Int)==48)=false:=by simp;omega
  have b48:(48:Int)≤(n:Int):=by omega
  have c48:¬(n:Int)≤48:=by omega
  have a57:((n:Int)==57)=false:=by simp;omega
  have b57:(57:Int)≤(n:Int):=by omega
  have c57:¬(n:Int)≤57:=by omega
  have a97:((n:Int)==97)=false:=by simp;omega
  have b97:¬(97:Int)≤(n:Int):=by omega
  have c97:(n:Int)≤97:=by omega
  have a122:((n:Int)==122)=false:=by simp;omega
  have b122:¬(122:Int)≤(n:Int):=by omega
  have c122:(n:Int)≤122:=by omega
  clear h1 h2
  go_enter Tryz.func183,Tryz.ntmps183
  go_wp2
  go_ret
  exact⟨rfl,rfl⟩
 ·have a32:((n:Int)==32)=false:=by simp;omega
  have b32:(32:Int)≤(n:Int):=by omega
  have c32:¬(n:Int)≤32:=by omega
  have a48:((n:Int)==48)=false:=by simp;omega
  have b48:(48:Int)≤(n:Int):=by omega
  have c48:¬(n:Int)≤48:=by omega
  have a57:((n:Int)==57)=false:=by simp;omega
  have b57:(57:Int)≤(n:Int):=by omega
  have c57:¬(n:Int)≤57:=by omega
  have b97:(97:Int)≤(n:Int):=by omega
  have c122:(n:Int)≤122:=by omega
  clear h1 h2
  go_enter Tryz.func183,Tryz.ntmps183
  go_wp2
  go_ret
  exact⟨rfl,rfl⟩
theorem nEdi_calls {n:Nat} {cl:Nat} (hc:clsOf n=cl) (h4:cl<4) (w:World):Calls Tryz.prog 185 #[.int .u8 n] w fun e w'=>e= .returned (.bool (!(cl==1)))∧w'=w:=by
 subst hc
 rcases cls_cases h4 with⟨e,h1⟩|⟨e,h1,h2⟩|⟨e,h1,h2⟩|⟨e,h1,h2⟩<;>(try rw[e])<;>clear e h4
 ·subst h1
  go_enter Tryz.func185,Tryz.ntmps185
  go_wp2
  go_ret
  exact⟨rfl,rfl⟩
 ·have a32:((n:Int)==32)=false:=by simp;omega
  have b32:(32:Int)≤(n:Int):=by omega
  have c32:¬(n:Int)≤32:=by omega
  have a94:((n:Int)==94)=false:=by simp;omega
  have b94:¬(94:Int)≤(n:Int):=by omega
  have c94:(n:Int)≤94:=by omega
  clear h1 h2
  go_enter Tryz.func185,Tryz.ntmps185
  go_wp2
  go_ret
  exact⟨rfl,rfl⟩
 ·have a32:((n:Int)==32)=false:=by simp;omega
  have b32:(32:Int)≤(n:Int):=by omega
  have c32:¬(n:Int)≤32:=by omega
  have a94:((n:Int)==94)=false:=by simp;omega
  have b94:¬(94:Int)≤(n:Int):=by omega
  have c94:(n:Int)≤94:=by omega
  clear h1 h2
  go_enter Tryz.func185,Tryz.ntmps185
  go_wp2
  go_ret
  exact⟨rfl,rfl⟩
 ·have a32:((n:Int)==32)=false:=by simp;omega
  have b32:(32:Int)≤(n:Int):=by omega
  have c32:¬(n:Int)≤32:=by omega
  have a94:((n:Int)==94)=false:=by simp;omega
  have b94:(94:Int)≤(n:Int):=by omega
  have c94:¬(n:Int)≤94:=by omega
  clear h1 h2
  go_enter Tryz.func185,Tryz.ntmps185
  go_wp2
  go_ret
  exact⟨rfl,rfl⟩
theorem sep_calls {n:Nat} {cl:Nat} (hc:clsOf n=cl) (h4:cl<4) (w:World):Calls Tryz.prog 187 #[.int .u8 n] w fun e w'=>e= .returned (.bool false)∧w'=w:=by
 subst hc
 rcases cls_cases h4 with⟨e,h1⟩|⟨e,h1,h2⟩|⟨e,h1,h2⟩|⟨e,h1,h2⟩<;>(try rw[e])<;>clear e h4
 ·subst h1
  go_enter Tryz.func187,Tryz.ntmps187
  go_wp2
  go_ret
  exact⟨rfl,rfl⟩
 ·have a13:((n:Int)==13)=false:=by simp;omega
  have b13:(13:Int)≤(n:Int):=by omega
  have c13:¬(n:Int)≤13:=by omega
  have a42:((n:Int)==42)=false:=by simp;omega
  have b42:(42:Int)≤(n:Int):=by omega
  have c42:¬(n:Int)≤42:=by omega
  have a62:((n:Int)==62)=false:=by simp;omega
  have b62:¬(62:Int)≤(n:Int):=by omega
  have c62:(n:Int)≤62:=by omega
  clear h1 h2
  go_enter Tryz.func187,Tryz.ntmps187
  go_wp2
  go_ret
  exact⟨rfl,rfl⟩
 ·have a13:((n:Int)==13)=false:=by simp;omega
  have b13:(13:Int)≤(n:Int):=by omega
  have c13:¬(n:Int)≤13:=by omega
  have a42:((n:Int)==42)=false:=by simp;omega
  have b42:(42:Int)≤(n:Int):=by omega
  have c42:¬(n:Int)≤42:=by omega
  have a62:((n:Int)==62)=false:=by simp;omega
  have b62:(62:Int)≤(n:Int):=by omega
  have c62:¬(n:Int)≤62:=by omega
  clear h1 h2
  go_enter Tryz.func187,Tryz.ntmps187
  go_wp2
  go_ret
  exact⟨rfl,rfl⟩
 ·have a13:((n:Int)==13)=false:=by simp;omega
  have b13:(13:Int)≤(n:Int):=by omega
  have c13:¬(n:Int)≤13:=by omega
  have a42:((n:Int)==42)=false:=by simp;omega
  have b42:(42:Int)≤(n:Int):=by omega
  have c42:¬(n:Int)≤42:=by omega
  have a62:((n:Int)==62)=false:=by simp;omega
  have b62:(62:Int)≤(n:Int):=by omega
  have c62:¬(n:Int)≤62:=by omega
  clear h1 h2
  go_enter Tryz.func187,Tryz.ntmps187
  go_wp2
  go_ret
  exact⟨rfl,rfl⟩
theorem b256_calls {n:Nat} {cl:Nat} (hc:clsOf n=cl) (h4:cl<4) (w:World):Calls Tryz.prog 186 #[.int .u8 n] w fun e w'=>e= .returned (.bool false)∧w'=w:=by
 subst hc
 rcases cls_cases h4 with⟨e,h1⟩|⟨e,h1,h2⟩|⟨e,h1,h2⟩|⟨e,h1,h2⟩<;>(try rw[e])<;>clear e h4
 ·subst h1
  go_enter Tryz.func186,Tryz.ntmps186
  go_wp2
  go_ret
  exact⟨rfl,rfl⟩
 ·clear h1 h2
  go_enter Tryz.func186,Tryz.ntmps186
  go_wp2
  go_ret
  exact⟨rfl,rfl⟩
 ·clear h1 h2
  go_enter Tryz.func186,Tryz.ntmps186
  go_wp2
  go_ret
  exact⟨rfl,rfl⟩
 ·clear h1 h2
  go_enter Tryz.func186,Tryz.ntmps186
  go_wp2
  go_ret
  exact⟨rfl,rfl⟩
theorem x12_calls {n:Nat} {cl:Nat} (hc:clsOf n=cl) (h4:cl<4) (w:World):Calls Tryz.prog 184 #[.int .u8 n] w fun e w'=>e= .returned (.bool (!(cl==1)))∧w'=w:=by
 have hs:=fun w=>sep_calls hc h4 w
 subst hc
 rcases cls_cases h4 with⟨e,h1⟩|⟨e,h1,h2⟩|⟨e,h1,h2⟩|⟨e,h1,h2⟩<;>(try rw[e])<;>clear e h4
 ·subst h1
  go_enter Tryz.func184,Tryz.ntmps184
  go_wp2_with (first|(go_at_call 187;refine(hs _).mono ?_;rintro e w2 ⟨rfl,rfl⟩))
  go_ret
  first|exact⟨rfl,rfl⟩|(refine⟨?_,rfl⟩;simp;omega)
 ·have a32:((n:Int)==32)=false:=by simp;omega
  have b32:(32:Int)≤(n:Int):=by omega
  have c32:¬(n:Int)≤32:=by omega
  have b48:(48:Int)≤(n:Int):=by omega
  have c57:(n:Int)≤57:=by omega
  have a65:((n:Int)==65)=false:=by simp;omega
  have b65:¬(65:Int)≤(n:Int):=by omega
  have c65:(n:Int)≤65:=by omega
  have a90:((n:Int)==90)=false:=by simp;omega
  have b90:¬(90:Int)≤(n:Int):=by omega
  have c90:(n:Int)≤90:=by omega
  clear h1 h2
  go_enter Tryz.func184,Tryz.ntmps184
  go_wp2_with (first|(go_at_call 187;refine(hs _).mono ?_;rintro e w2 ⟨rfl,rfl⟩))
  go_ret
  first|exact⟨rfl,rfl⟩|(refine⟨?_,rfl⟩;simp;omega)
 ·have a32:((n:Int)==32)=false:=by simp;omega
  have b32:(32:Int)≤(n:Int):=by omega
  have c32:¬(n:Int)≤32:=by omega
  have a48:((n:Int)==48)=false:=by simp;omega
  have b48:(48:Int)≤(n:Int):=by omega
  have c48:¬(n:Int)≤48:=by omega
  have a57:((n:Int)==57)=false:=by simp;omega
  have b57:(57:Int)≤(n:Int):=by omega
  have c57:¬(n:Int)≤57:=by omega
  have b65:(65:Int)≤(n:Int):=by omega
  have c90:(n:Int)≤90:=by omega
  clear h1 h2
  go_enter Tryz.func184,Tryz.ntmps184
  go_wp2_with (first|(go_at_call 187;refine(hs _).mono ?_;rintro e w2 ⟨rfl,rfl⟩))
  go_ret
  first|exact⟨rfl,rfl⟩|(refine⟨?_,rfl⟩;simp;omega)
 ·have a32:((n:Int)==32)=false:=by simp;omega
  have b32:(32:Int)≤(n:Int):=by omega
  have c32:¬(n:Int)≤32:=by omega
  have a48:((n:Int)==48)=false:=by simp;omega
  have b48:(48:Int)≤(n:Int):=by omega
  have c48:¬(n:Int)≤48:=by omega
  have a57:((n:Int)==57)=false:=by simp;omega
  have b57:(57:Int)≤(n:Int):=by omega
  have c57:¬(n:Int)≤57:=by omega
  have a65:((n:Int)==65)=false:=by simp;omega
  have b65:(65:Int)≤(n:Int):=by omega
  have c65:¬(n:Int)≤65:=by omega
  have a90:((n:Int)==90)=false:=by simp;omega
  have b90:(90:Int)≤(n:Int):=by omega
  have c90:¬(n:Int)≤90:=by omega
  clear h1 h2
  go_enter Tryz.func184,Tryz.ntmps184
  go_wp2_with (first|(go_at_call 187;refine(hs _).mono ?_;rintro e w2 ⟨rfl,rfl⟩))
  go_ret
  first|exact⟨rfl,rfl⟩|(refine⟨?_,rfl⟩;simp;omega)
end
section
open Go.RowKit
def frow (fs:List Nat):Array Value:=(fs.map (Value.float .f64)).toArray
@[simp] theorem size_frow (fs:List Nat):(frow fs).size=fs.length:=by simp[frow]
theorem frow_get (fs:List Nat) (i:Nat) (h:i<fs.length):(frow fs)[i]? =some (.float .f64 (fs.getD i 0)):=by simp[frow,h]
theorem frow_set (fs:List Nat) (i v:Nat):(frow fs).setIfInBounds i (.float .f64 v)=frow (fs.set i v):=by simp[frow,List.map_set]
def FRow (w:World) (b:Nat) (fs:List Nat):Prop:=w.heap[b]? =some (.cells (frow fs) 213)
section
variable {w w':World} {b:Nat} {fs:List Nat}
theorem FRow.lt (h:FRow w b fs):b<w.heap.size:=by unfold FRow at h;exact(Array.getElem?_eq_some_iff.1 h).1
theorem FRow.cell (h:FRow w b fs) {i:Nat} (hi:i<fs.length):w.cell? ⟨b,i,none⟩=some (.float .f64 (fs.getD i 0)):=by rw[cell_blk h,frow_get _ _ hi]
theorem FRow.free (h:FRow w b fs) (i:Nat):w.frozen? ⟨b,i,none⟩=false:=frozen_blk h i
theorem FRow.alloc (h:FRow w b fs) (o:Obj):FRow (w.alloc o) b fs:=by
 have:=h.lt
 unfold FRow;rw[Below.heap_alloc _ _ _ this];exact h
theorem FRow.set_ne (h:FRow w b fs) {a:Addr} (ha:b≠a.block) (u:Value):FRow (w.setCell a u) b fs:=by unfold FRow;rw[Below.heap_setCell _ _ _ _ ha];exact h
theorem FRow.set (h:FRow w b fs) (i v:Nat):FRow (w.setCell ⟨b,i,none⟩ (.float .f64 v)) b (fs.set i v):=by unfold FRow;rw[heap_setCell_at h,frow_set]
theorem FRow.new (w:World) (fs:List Nat):FRow (w.alloc (.cells (frow fs) 213)) w.heap.size fs:=by unfold FRow;rw[alloc_heap];simp
theorem FRow.drewN (h:FRow w b fs) (n:Nat):FRow (w.drewN n) b fs:=h
theorem FRow.drew (h:FRow w b fs):FRow w.drew b fs:=h
end
structure MinMem (B:Nat) (w0 w:World) (fb ib mb:Nat) (fs:List Nat) (ks l:List Int):Prop where
 below:Below B w0 w
 flo:FRow w fb fs
 ints:Row w ib .i64 3 ks
 mins:Row w mb .u8 5 l
 b1:B≤ib
 b2:B≤mb
 n1:fb≠ib
 n2:fb≠mb
 n3:ib≠mb
 lf:fs.length=6
 lk:ks.length=6
 ll:l.length=6
section
variable {B:Nat} {w0 w:World} {fb ib mb:Nat} {fs:List Nat} {ks l:List Int}
theorem MinMem.setI (h:MinMem B w0 w fb ib mb fs ks l) (k:Nat) (v:Int):MinMem B w0 (w.setCell ⟨ib,k,none⟩ (.int .i64 v)) fb ib mb fs (ks.set k v) l:=
 ⟨h.below.setCell h.b1 _,h.flo.set_ne h.n1 _,h.ints.set k v,h.mins.set_ne h.n3.symm _,h.b1,h.b2,h.n1,h.n2,h.n3,h.lf,by simpa using h.lk,h.ll⟩
theorem MinMem.setM (h:MinMem B w0 w fb ib mb fs ks l) (k:Nat) (v:Int):MinMem B w0 (w.setCell ⟨mb,k,none⟩ (.int .u8 v)) fb ib mb fs ks (l.set k v):=
 ⟨h.below.setCell h.b2 _,h.flo.set_ne h.n2 _,h.ints.set_ne h.n3 _,h.mins.set k v,h.b1,h.b2,h.n1,h.n2,h.n3,h.lf,h.lk,by simpa using h.ll⟩
theorem MinMem.drewN (h:MinMem B w0 w fb ib mb fs ks l) (n:Nat):MinMem B w0 (w.drewN n) fb ib mb fs ks l:=
 ⟨below_dr h.below n,h.flo,h.ints,h.mins,h.b1,h.b2,h.n1,h.n2,h.n3,h.lf,h.lk,h.ll⟩
theorem MinMem.drew (h:MinMem B w0 w fb ib mb fs ks l):MinMem B w0 w.drew fb ib mb fs ks l:=h.drewN 1
end
theorem zero_six {l:List Int} (h:l.length=6) (hz:∀q,q<6→l.getD q 0=0):l=zs 6:=by
 apply List.ext_getElem
 ·simp[h]
 ·intro i h1 h2
  have:=hz i (by omega)
  rw[List.getD_eq_getElem?_getD,List.getElem?_eq_getElem h1,Option.getD_some]at this
  simp only[this,zs,List.getElem_replicate]
def MinAt (K:Nat→Int) (i:Nat) (m:Int) (ks l:List Int):Prop:=
 (∀j,j<i→m≤K j)∧(i=0→m=2147483647)∧(0<i→∃j,j<i∧m=K j)∧(∀j,j<i→ks.getD j 0=K j)∧(∀j,l.getD j 0=if j<i∧K j=m then 1 else 0)
theorem getD_setI {l:List Int} {i j:Nat} {v:Int} (h:i<l.length):(l.set i v).getD j 0=if i=j then v else l.getD j 0:=by
 rw[List.getD_eq_getElem?_getD,List.getElem?_set,List.getD_eq_getElem?_getD]
 by_cases e:i=j
 ·subst e;rw[if_pos rfl,if_pos h,if_pos rfl];rfl
 ·rw[if_neg e,if_neg e]
theorem MinAt.less {K:Nat→Int} {i:Nat} {m c:Int} {ks l:List Int} (h:MinAt K i m ks l) (hk:ks.length=6) (hi:i<6) (hc:c=K i) (hlt:c<m):MinAt K (i+1) c (ks.set i c) ((zs 6).set i 1):=by
 obtain⟨h1,h2,h3,h4,h5⟩:=h
 subst hc
 refine⟨fun j hj=>?_,fun h=>by omega,fun _=>⟨i,by omega,rfl⟩,fun j hj=>?_,fun j=>?_⟩
 ·rcases Nat.lt_or_ge j i with h|h
  ·have:=h1 j h;omega
  ·obtain rfl:j=i:=by omega
   exact Int.le_refl _
 ·rw[getD_setI (by omega)]
  by_cases e:i=j
  ·rw[if_pos e,e]
  ·rw[if_neg e];exact h4 j (by omega)
 ·rw[getD_setI (by simp;omega),getD_zs]
  by_cases e:i=j
  ·subst e;rw[if_pos rfl,if_pos ⟨by omega,rfl⟩]
  ·rw[if_neg e,if_neg]
   rintro⟨a,b⟩
   have:=h1 j (by omega);omega
theorem MinAt.same {K:Nat→Int} {i:Nat} {m:Int} {ks l:List Int} (h:MinAt K i m ks l) (hk:ks.length=6) (hl:l.length=6) (hi:i<6) (hc:m=K i):l.getD i 0=0∧MinAt K (i+1) m (ks.set i m) (l.set i 1):=by
 obtain⟨h1,h2,h3,h4,h5⟩:=h
 refine⟨by rw[h5,if_neg (by omega)],fun j hj=>?_,fun h=>by omega,fun _=>⟨i,by omega,hc⟩,fun j hj=>?_,fun j=>?_⟩
 ·rcases Nat.lt_or_ge j i with h|h
  ·exact h1 j h
  ·obtain rfl:j=i:=by omega
   omega
 ·rw[getD_setI (by omega)]
  by_cases e:i=j
  ·rw[if_pos e,←e,hc]
  ·rw[if_neg e];exact h4 j (by omega)
 ·rw[getD_setI (by omega),h5]
  by_cases e:i=j
  ·subst e;rw[if_pos rfl,if_pos ⟨by omega,hc.symm⟩]
  ·rw[if_neg e]
   by_cases a:j<i∧K j=m
   ·rw[if_pos a,if_pos ⟨by omega,a.2⟩]
   ·rw[if_neg a,if_neg (fun b=>a ⟨by omega,b.2⟩)]
theorem MinAt.more {K:Nat→Int} {i:Nat} {m c:Int} {ks l:List Int} (h:MinAt K i m ks l) (hk:ks.length=6) (hi:i<6) (hc:c=K i) (hs:K i≤5000) (hlt:m<c):MinAt K (i+1) m (ks.set i c) l:=by
 obtain⟨h1,h2,h3,h4,h5⟩:=h
 subst hc
 have hi0:0<i∨i=0:=by omega
 refine⟨fun j hj=>?_,fun h=>by omega,fun _=>?_,fun j hj=>?_,fun j=>?_⟩
 ·rcases Nat.lt_or_ge j i with h|h
  ·exact h1 j h
  ·obtain rfl:j=i:=by omega
   omega
 ·rcases hi0 with h|h
  ·obtain⟨j,a,b⟩:=h3 h;exact⟨j,by omega,b⟩
  ·have:=h2 h;omega
 ·rw[getD_setI (by omega)]
  by_cases e:i=j
  ·rw[if_pos e,e]
  ·rw[if_neg e];exact h4 j (by omega)
 ·rw[h5]
  by_cases a:j<i∧K j=m
  ·rw[if_pos a,if_pos ⟨by omega,a.2⟩]
  ·rw[if_neg a,if_neg]
   rintro⟨b,c⟩
   rcases Nat.lt_or_ge j i with h|h
   ·exact a ⟨h,c⟩
   ·obtain rfl:j=i:=by omega
    omega
def HasInt (x:Nat) (k:Int):Prop:=(∃s m p,FloatKind.f64.decode x= .number s m p)∧floatToIntVal .f64 (ceilBits x) .i64=some k
theorem HasInt.conv {x:Nat} {k:Int} (h:HasInt x k) (w:World):(convert 213 3 (.float .f64 (ceilBits x))).run Tryz.prog w= .ok (.int .i64 k) w:=
 run_convert_float_int w 213 3 .f64 .i64 (ceilBits x) k (by rw[show Tryz.prog.underlying 213=some (.float .f64)from by kernel_rfl];rfl) Tryz.underlying3 h.2
def MinsPost (B:Nat) (w:World) (fb ib mb:Nat) (fs:List Nat) (K:Nat→Int) (e:Ending) (w':World):Prop:=
 ∃m ks l,e= .returned (.int .i64 m)∧MinMem B w w' fb ib mb fs ks l∧MinAt K 6 m ks l
set_option maxRecDepth 100000 in
set_option maxHeartbeats 8000000 in
theorem mins_calls {B:Nat} {w:World} {fb ib mb c1 c2 c3:Nat} {fs:List Nat} {ks0 l0:List Int} {K:Nat→Int} (h:MinMem B w w fb ib mb fs ks0 l0)
 (hK:∀i,i<6→HasInt (fs.getD i 0) (K i)) (hs:∀i,i<6→K i≤5000):
 Calls Tryz.prog 179 #[.slice (some ⟨fb,0,none⟩) 6 c1,.slice (some ⟨ib,0,none⟩) 6 c2,.int .i64 2147483647,.slice (some ⟨mb,0,none⟩) 6 c3] w (MinsPost B w fb ib mb fs K):=by
 have HK:=Lib.hid hK
 have HS:=Lib.hid hs
 have H:=Lib.hid h
 clear hK hs h
 go_enter Tryz.func179,Tryz.ntmps179
 go_wp2
 go_loopw [15] (fun i wr=>∃k:Nat,∃l,k≤6∧i= .int .i64 k∧Hid (MinMem B w wr fb ib mb fs ks0 l)∧Hid (∀q,q<k→l.getD q 0=0)) (fun i _=>6-(intOf i).toNat)
 case atStart=>exact⟨0,l0,by omega,rfl,H,fun q hq=>by omega⟩
 case round=>
  clear H
  obtain⟨k,l,hk,rfl,HM,hz⟩:=hrel
  by_cases hk6:k<6
  ·have f1:=HM.out.mins.free k
   have x1:=HM.out.mins.cell (i:=k) (by rw[HM.out.ll];exact hk6)
   have HN:=Lib.hid (HM.out.setM k 0)
   have hki:(k:Int)<6:=by omega
   go_wp2
   refine⟨⟨k+1,l.set k 0,by omega,by go_num,HN,fun q hq=>?_⟩,by simp[intOf];omega⟩
   rw[getD_setI (by rw[HM.out.ll];exact hk6)]
   split
   ·rfl
   ·exact hz q (by omega)
  ·obtain rfl:k=6:=by omega
   have hl0:=Lib.hid (zero_six HM.out.ll hz)
   go_wp2
   have H0:Hid (∃ks l',MinMem B w wr fb ib mb fs ks l'∧MinAt K 0 2147483647 ks l'):=⟨ks0,l,HM.out,fun j hj=>by omega,fun _=>rfl,fun h=>by omega,fun j hj=>by omega,fun j=>by rw[hl0.out,getD_zs,if_neg (by omega)]⟩
   clear HM hz hl0
   obtain⟨wz,rfl⟩:∃wz:World,wz=wr:=⟨_,rfl⟩
   go_loopw [2,10] (fun m i wr=>∃mi:Int,∃k:Nat,m= .int .i64 mi∧k≤6∧i= .int .i64 k∧Hid (∃ks l',MinMem B w wr fb ib mb fs ks l'∧MinAt K k mi ks l')) (fun _ i _=>6-(intOf i).toNat)
   case atStart=>exact⟨_,0,rfl,by omega,rfl,H0⟩
   case round=>
    clear H0
    obtain⟨mi,k,rfl,hk,rfl,HX⟩:=hrel
    by_cases hk6:k<6
    ·obtain⟨ks,l',hm,ha⟩:=HX
     have x0:=hm.flo.cell (i:=k) (by rw[hm.lf];exact hk6)
     have x2:=hm.ints.cell (i:=k) (by rw[hm.lk];exact hk6)
     have f1:=hm.ints.free k
     have f2:=hm.mins.free k
     have HI:=HK.out k hk6
     have hsm:=HS.out k hk6
     obtain⟨cur,hcur⟩:∃cur,cur=K k:=⟨_,rfl⟩
     rw[←hcur]at HI hsm
     have cv:=fun w=>HI.conv w
     obtain⟨⟨sg,mg,pl,hdec⟩,-⟩:=HI
     generalize fs.getD k 0=x at*
     have hki:(k:Int)<6:=by omega
     have HN:=Lib.hid (hm.setI k cur)
     have y1:=HN.out.ints.cell (i:=k) (by rw[HN.out.lk];exact hk6)
     have e1:(ks.set k cur).getD k 0=cur:=by rw[getD_setI (by rw[hm.lk];exact hk6),if_pos rfl]
     rw[e1]at y1
     have g2:=HN.out.mins.free k
     have HA:=Lib.hid ha
     have HC:=Lib.hid hcur
     have LK:=Lib.hid hm.lk
     have LL:=Lib.hid hm.ll
     clear ha hcur e1 hm
     rcases Int.lt_trichotomy cur mi with hlt|heq|hgt
     ·have hb1:mi>cur:=hlt
      have HA2:=Lib.hid (HA.out.less LK.out hk6 HC.out hlt)
      go_wp2_with (first|(go_at_call 181;refine(ceil_calls hdec _).mono ?_;rintro e w2 ⟨rfl,rfl⟩))
      clear x0 x2 f1 f2 y1 g2 cv hdec
      go_loopw [45] (fun i wq=>∃q:Nat,∃l2,q≤6∧i= .int .i64 q∧Hid (MinMem B w wq fb ib mb fs (ks.set k cur) l2)∧Hid (∀p,p<q→l2.getD p 0=0)) (fun i _=>6-(intOf i).toNat)
      case atStart=>exact⟨0,l',by omega,rfl,HN.out,fun q hq=>by omega⟩
      case round=>
       clear HN
       obtain⟨q,l2,hq,rfl,HM,hz⟩:=hrel
       by_cases hq6:q<6
       ·have f1:=HM.out.mins.free q
        have x1:=HM.out.mins.cell (i:=q) (by rw[HM.out.ll];exact hq6)
        have HN:=Lib.hid (HM.out.setM q 0)
        have hqi:(q:Int)<6:=by omega
        go_wp2
        refine⟨⟨q+1,l2.set q 0,by omega,by go_num,HN,fun p hp=>?_⟩,by simp[intOf];omega⟩
        rw[getD_setI (by rw[HM.out.ll];exact hq6)]
        split
        ·rfl
        ·exact hz p (by omega)
       ·obtain rfl:q=6:=by omega
        have hl0:=zero_six HM.out.ll hz
        subst hl0
        clear hz
        have f1:=HM.out.mins.free k
        have x1:=HM.out.mins.cell (i:=k) hk6
        rw[getD_zs]at x1
        have HN:=Lib.hid (HM.out.setM k 1)
        go_wp2
        go_roundw
        case rel=>(repeat apply Exists.intro);exact⟨⟨cur,k+1,rfl,by omega,by go_num,_,_,HN.out,HA2.out⟩,rfl⟩
        case measure=>simp[intOf];omega
     ·subst heq
      have hS:=HA.out.same LK.out LL.out hk6 HC.out
      have HA2:=Lib.hid hS.2
      have x3:=HN.out.mins.cell (i:=k) (by rw[LL.out];exact hk6)
      rw[hS.1]at x3
      clear hS
      have HN2:=Lib.hid (HN.out.setM k 1)
      go_wp2_with (first|(go_at_call 181;refine(ceil_calls hdec _).mono ?_;rintro e w2 ⟨rfl,rfl⟩))
      go_roundw
      case rel=>(repeat apply Exists.intro);exact⟨⟨cur,k+1,rfl,by omega,by go_num,_,_,HN2.out,HA2.out⟩,rfl⟩
      case measure=>simp[intOf];omega
     ·have hb1:¬mi>cur:=by omega
      have hb2:(mi==cur)=false:=by simp;omega
      have HA2:=Lib.hid (HA.out.more LK.out hk6 HC.out (by rw[←HC.out];exact hsm) hgt)
      go_wp2_with (first|(go_at_call 181;refine(ceil_calls hdec _).mono ?_;rintro e w2 ⟨rfl,rfl⟩))
      go_roundw
      case rel=>(repeat apply Exists.intro);exact⟨⟨mi,k+1,rfl,by omega,by go_num,_,_,HN.out,HA2.out⟩,rfl⟩
      case measure=>simp[intOf];omega
    ·obtain rfl:k=6:=by omega
     go_wp2
     go_ret
     obtain⟨ks,l',hm,ha⟩:=HX
     exact⟨mi,ks,l',rfl,hm,ha⟩
def sumTo (l:List Int):Nat→Int
 |0=>0
 |n+1=>sumTo l n+l.getD n 0
theorem sumTo_le {l:List Int} (h:∀j,0≤l.getD j 0∧l.getD j 0≤1):∀n:Nat,0≤sumTo l n∧sumTo l n≤n
 |0=>by simp[sumTo]
 |n+1=>by
  have h1:=sumTo_le h n
  have h2:=h n
  simp only[sumTo];omega
set_option maxRecDepth 100000 in
set_option maxHeartbeats 2000000 in
theorem minCount_calls {w:World} {mb c:Nat} {l:List Int} (h:Row w mb .u8 5 l) (hl:l.length=6) (hb:∀j,0≤l.getD j 0∧l.getD j 0≤1):
 Calls Tryz.prog 180 #[.slice (some ⟨mb,0,none⟩) 6 c] w fun e w'=>e= .returned (.int .i64 (sumTo l 6))∧w'=w:=by
 have H:=Lib.hid h
 have HB:=Lib.hid hb
 have HL:=Lib.hid hl
 clear h hb hl
 go_enter Tryz.func180,Tryz.ntmps180
 go_wp2
 go_loopw [3,4] (fun s i wr=>wr=w∧∃k:Nat,k≤6∧s= .int .i64 (sumTo l k)∧i= .int .i64 k) (fun _ i _=>6-(intOf i).toNat)
 case atStart=>exact⟨rfl,0,by omega,rfl,rfl⟩
 case round=>
  obtain⟨rfl,k,hk,rfl,rfl⟩:=hrel
  by_cases hk6:k<6
  ·have x1:=H.out.cell (i:=k) (by rw[HL.out];exact hk6)
   have b1:=HB.out k
   have s1:=sumTo_le HB.out k
   have hs:=Lib.hid (show sumTo l k+l.getD k 0=sumTo l (k+1)from rfl)
   generalize l.getD k 0=z at*
   generalize sumTo l k=sk at*
   have hki:(k:Int)<6:=by omega
   go_wp2
   exact⟨⟨trivial,k+1,by omega,by rw[←hs.out],by go_num⟩,by simp[intOf];omega⟩
  ·obtain rfl:k=6:=by omega
   go_wp2
   go_ret
   exact⟨rfl,rfl⟩
end
section
open Go.RowKit
def F6.list (f:F6):List Nat:=[f.a,f.c,f.t,f.x,f.e,f.b]
def lkMode (o:Nat):Nat:=if o=1 then 0 else if o=2 then 2 else 1
structure LkMem (w0 w:World) (fb mb:Nat) (fs msg:List Nat):Prop where
 below:Below w0.heap.size w0 w
 flo:FRow w fb fs
 byt:Bytes w mb msg
 b1:w0.heap.size≤fb
 n1:mb<w0.heap.size
 b2:fb<w.heap.size
section
variable {w0 w:World} {fb mb:Nat} {fs msg:List Nat}
theorem LkMem.set (h:LkMem w0 w fb mb fs msg) (i v:Nat):LkMem w0 (w.setCell ⟨fb,i,none⟩ (.float .f64 v)) fb mb (fs.set i v) msg:=
 ⟨h.below.setCell h.b1 _,h.flo.set i v,h.byt.set_ne (by have:=h.b1;have:=h.n1;simp;omega) _,h.b1,h.n1,by have:=h.b2;simpa[World.setCell]using this⟩
end
theorem store_float (a:Addr) (n:Nat) (w:World):(store a (.float .f64 n)).run Tryz.prog w=stored Tryz.prog w a (.float .f64 n) .plain:=run_store Tryz.prog w a _ .plain rfl
def firstLoop:Code→Option Code
 | .loop c=>some c
 | .seq a b=>match firstLoop a with
   |some c=>some c
   |none=>firstLoop b
 | .block _ c=>firstLoop c
 | .scope c=>firstLoop c
 | .cond _ a b=>match firstLoop a with
   |some c=>some c
   |none=>firstLoop b
 |_=>none
def unBlock:Code→Code
 | .block _ c=>c
 |c=>c
def tailSeq:Nat→Code→Code
 |n+1,.seq _ b=>tailSeq n b
 |_,c=>c
noncomputable def lkBody:Code:=unBlock ((Tryz.f175.body.bind firstLoop).getD .skip)
noncomputable def lkDec:Code:=tailSeq 9 lkBody
def fr (c0 c1 c2 c6 c7 c8:Value) (T:Nat→Value):Act:=⟨#[c0,c1,c2,T 3,T 4,T 5,c6,c7,c8,T 9,T 10,T 11,T 12,T 13,T 14,T 15,T 16,T 17,T 18,T 19,T 20,T 21,T 22,T 23,T 24,T 25,T 26,T 27,T 28,T 29,T 30,T 31,T 32,T 33,T 34,T 35,T 36,T 37,T 38,T 39,T 40,T 41,T 42,T 43,T 44,T 45,T 46,T 47,T 48,T 49,T 50,T 51,T 52,T 53,T 54,T 55,T 56,T 57,T 58,T 59,T 60,T 61,T 62,T 63,T 64,T 65,T 66,T 67,T 68,T 69,T 70,T 71,T 72,T 73,T 74,T 75,T 76,T 77,T 78,T 79,T 80,T 81,T 82,T 83,T 84,T 85,T 86,T 87,T 88,T 89,T 90,T 91,T 92,T 93,T 94,T 95,T 96,T 97,T 98,T 99,T 100,T 101,T 102,T 103,T 104,T 105,T 106,T 107,T 108,T 109,T 110,T 111,T 112,T 113,T 114,T 115,T 116,T 117,T 118,T 119,T 120,T 121,T 122,T 123,T 124,T 125,T 126,T 127,T 128,T 129,T 130,T 131,T 132,T 133,T 134,T 135,T 136,T 137,T 138,T 139,T 140,T 141,T 142,T 143,T 144,T 145,T 146,T 147,T 148,T 149,T 150,T 151,T 152,T 153,T 154,T 155,T 156,T 157,T 158,T 159,T 160,T 161,T 162,T 163,T 164,T 165,T 166,T 167,T 168,T 169,T 170,T 171,T 172,T 173,T 174,T 175,T 176,T 177,T 178,T 179,T 180,T 181,T 182,T 183,T 184,T 185,T 186,T 187,T 188,T 189,T 190,T 191,T 192,T 193,T 194,T 195,T 196,T 197,T 198,T 199,T 200,T 201,T 202,T 203,T 204,T 205,T 206,T 207,T 208,T 209,T 210,T 211,T 212,T 213,T 214,T 215,T 216,T 217,T 218,T 219,T 220,T 221,T 222,T 223,T 224,T 225,T 226,T 227,T 228,T 229,T 230,T 231,T 232,T 233,T 234,T 235,T 236,T 237,T 238,T 239,T 240,T 241,T 242,T 243,T 244,T 245,T 246,T 247,T 248,T 249,T 250,T 251,T 252,T 253,T 254,T 255,T 256,T 257,T 258,T 259,T 260,T 261,T 262,T 263,T 264,T 265,T 266,T 267,T 268,T 269,T 270,T 271,T 272,T 273,T 274,T 275,T 276,T 277,T 278,T 279,T 280,T 281,T 282,T 283,T 284,T 285,T 286,T 287,T 288,T 289,T 290,T 291,T 292,T 293,T 294,T 295,T 296,T 297,T 298,T 299,T 300,T 301,T 302,T 303,T 304,T 305,T 306,T 307,T 308,T 309,T 310,T 311,T 312,T 313,T 314,T 315,T 316,T 317,T 318,T 319,T 320,T 321,T 322,T 323,T 324,T 325,T 326,T 327,T 328,T 329,T 330,T 331,T 332,T 333,T 334,T 335,T 336,T 337,T 338,T 339,T 340,T 341,T 342,T 343,T 344,T 345,T 346,T 347,T 348,T 349,T 350,T 351,T 352,T 353,T 354,T 355,T 356,T 357,T 358,T 359,T 360,T 361,T 362,T 363,T 364,T 365,T 366,T 367,T 368,T 369,T 370,T 371,T 372,T 373,T 374,T 375,T 376,T 377,T 378,T 379,T 380,T 381,T 382],[]⟩
theorem range_act (t:Array Value) (h:t.size=383):t=((List.range 383).map fun k=>t.getD k undef).toArray:=by
 apply Array.ext
 ·simp[h]
 ·intro i h1 h2
  simp[Array.getD,h1]
set_option maxRecDepth 100000 in
theorem fr_of {a:Act} {c0 c1 c2 c6 c7 c8:Value} (hs:a.tmps.size=383) (hd:a.defers=[]) (h0:a.tmps.getD 0 undef=c0) (h1:a.tmps.getD 1 undef=c1) (h2:a.tmps.getD 2 undef=c2)
 (h6:a.tmps.getD 6 undef=c6) (h7:a.tmps.getD 7 undef=c7) (h8:a.tmps.getD 8 undef=c8):∃T,a=fr c0 c1 c2 c6 c7 c8 T:=by
 refine⟨fun k=>a.tmps.getD k undef,?_⟩
 have e:=range_act a.tmps hs
 obtain⟨t,d⟩:=a
 simp only at hs hd h0 h1 h2 h6 h7 h8 e
 subst hd
 subst h0 h1 h2 h6 h7 h8
 unfold fr
 rw[Act.mk.injEq]
 exact⟨e,rfl⟩
end
end Go.Proofs.YtcnallabiffemaaGreatDoor
