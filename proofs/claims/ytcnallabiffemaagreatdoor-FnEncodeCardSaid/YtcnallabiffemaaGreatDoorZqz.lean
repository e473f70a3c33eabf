/- The table of promises is true: the bound on the codewords. -/
import Derived.Test.YtcnallabiffemaaGreatDoorZq1
import Derived.Test.YtcnallabiffemaaGreatDoorZq2
import Derived.Test.YtcnallabiffemaaGreatDoorZq3
import Derived.Test.YtcnallabiffemaaGreatDoorZq4
import Derived.Test.YtcnallabiffemaaGreatDoorZq5
import Derived.Test.YtcnallabiffemaaGreatDoorZq6
set_option linter.unusedVariables false
set_option linter.unusedSimpArgs false
namespace Go.Proofs.YtcnallabiffemaaGreatDoor
theorem tab_good (v:List Nat):Good hdAt moAt tabN v:=by
 refine table_ok hdAt moAt ppAt tabN (fun i hi=>?_) (fun key hk h1 hr r h=>chkRoots_ok _ _ _ _ roots strR (chk_ne tabR) (key,r) (roots_all key hk h1 hr r h)) v
 have hi2:i<9420:=hi
 by_cases h0:i<724
 ·exact chkFrom_ok hdAt moAt ppAt tabN 724 0 str0 (chk_ne tab0) i (by omega) (by omega)
 by_cases h1:i<988
 ·exact chkFrom_ok hdAt moAt ppAt tabN 264 724 str1 (chk_ne tab1) i (by omega) (by omega)
 by_cases h2:i<1283
 ·exact chkFrom_ok hdAt moAt ppAt tabN 295 988 str2 (chk_ne tab2) i (by omega) (by omega)
 by_cases h3:i<1883
 ·exact chkFrom_ok hdAt moAt ppAt tabN 600 1283 str3 (chk_ne tab3) i (by omega) (by omega)
 by_cases h4:i<2573
 ·exact chkFrom_ok hdAt moAt ppAt tabN 690 1883 str4 (chk_ne tab4) i (by omega) (by omega)
 by_cases h5:i<2861
 ·exact chkFrom_ok hdAt moAt ppAt tabN 288 2573 str5 (chk_ne tab5) i (by omega) (by omega)
 by_cases h6:i<2920
 ·exact chkFrom_ok hdAt moAt ppAt tabN 59 2861 str6 (chk_ne tab6) i (by omega) (by omega)
 by_cases h7:i<3263
 ·exact chkFrom_ok hdAt moAt ppAt tabN 343 2920 str7 (chk_ne tab7) i (by omega) (by omega)
 by_cases h8:i<3698
 ·exact chkFrom_ok hdAt moAt ppAt tabN 435 3263 str8 (chk_ne tab8) i (by omega) (by omega)
 by_cases h9:i<4172
 ·exact chkFrom_ok hdAt moAt ppAt tabN 474 3698 str9 (chk_ne tab9) i (by omega) (by omega)
 by_cases h10:i<4646
 ·exact chkFrom_ok hdAt moAt ppAt tabN 474 4172 str10 (chk_ne tab10) i (by omega) (by omega)
 by_cases h11:i<5137
 ·exact chkFrom_ok hdAt moAt ppAt tabN 491 4646 str11 (chk_ne tab11) i (by omega) (by omega)
 by_cases h12:i<5618
 ·exact chkFrom_ok hdAt moAt ppAt tabN 481 5137 str12 (chk_ne tab12) i (by omega) (by omega)
 by_cases h13:i<6078
 ·exact chkFrom_ok hdAt moAt ppAt tabN 460 5618 str13 (chk_ne tab13) i (by omega) (by omega)
 by_cases h14:i<6528
 ·exact chkFrom_ok hdAt moAt ppAt tabN 450 6078 str14 (chk_ne tab14) i (by omega) (by omega)
 by_cases h15:i<6649
 ·exact chkFrom_ok hdAt moAt ppAt tabN 121 6528 str15 (chk_ne tab15) i (by omega) (by omega)
 by_cases h16:i<6967
 ·exact chkFrom_ok hdAt moAt ppAt tabN 318 6649 str16 (chk_ne tab16) i (by omega) (by omega)
 by_cases h17:i<7283
 ·exact chkFrom_ok hdAt moAt ppAt tabN 316 6967 str17 (chk_ne tab17) i (by omega) (by omega)
 by_cases h18:i<7640
 ·exact chkFrom_ok hdAt moAt ppAt tabN 357 7283 str18 (chk_ne tab18) i (by omega) (by omega)
 by_cases h19:i<7971
 ·exact chkFrom_ok hdAt moAt ppAt tabN 331 7640 str19 (chk_ne tab19) i (by omega) (by omega)
 by_cases h20:i<8316
 ·exact chkFrom_ok hdAt moAt ppAt tabN 345 7971 str20 (chk_ne tab20) i (by omega) (by omega)
 by_cases h21:i<8573
 ·exact chkFrom_ok hdAt moAt ppAt tabN 257 8316 str21 (chk_ne tab21) i (by omega) (by omega)
 by_cases h22:i<8905
 ·exact chkFrom_ok hdAt moAt ppAt tabN 332 8573 str22 (chk_ne tab22) i (by omega) (by omega)
 by_cases h23:i<9296
 ·exact chkFrom_ok hdAt moAt ppAt tabN 391 8905 str23 (chk_ne tab23) i (by omega) (by omega)
 exact chkFrom_ok hdAt moAt ppAt tabN 124 9296 str24 (chk_ne tab24) i (by omega) (by omega)
theorem codewords_le (v:List Nat) (n:Nat) (hc:∀c∈v,c<4) (h:Run 0 v n):300*n+(if v.length<6 then 86*v.length else 445)≤386*v.length:=
 bound_of hdAt moAt tabN tab_good v n hc h
theorem codewords_le40 (v:List Nat) (n:Nat) (hc:∀c∈v,c<4) (h:Run 0 v n) (hl:v.length≤40):n≤49:=by
 have:=codewords_le v n hc h
 split at this<;>omega
theorem codewords_le1000 (v:List Nat) (n:Nat) (hc:∀c∈v,c<4) (h:Run 0 v n) (hl:v.length≤1000):n≤1285:=by
 have:=codewords_le v n hc h
 split at this<;>omega
end Go.Proofs.YtcnallabiffemaaGreatDoor
