import Derived.Test.YtcnallabiffemaaGreatDoorMHq1
import Derived.Test.YtcnallabiffemaaGreatDoorMHq2
import Derived.Test.YtcnallabiffemaaGreatDoorMHq3
import Derived.Test.YtcnallabiffemaaGreatDoorMHq4
import Derived.Test.YtcnallabiffemaaGreatDoorMHq5
import Derived.Test.YtcnallabiffemaaGreatDoorMHq6

/- The table of promises is true: the bound on the codewords. -/
set_option linter.unusedVariables false
set_option linter.unusedSimpArgs false
namespace Go.Proofs.YtcnallabiffemaaGreatDoor
theorem tab_good (v : List Nat) : Good hdAt moAt tabN v := by
  refine table_ok hdAt moAt ppAt tabN (fun i hi => ?_) (fun key hk h1 hr r h => chkRoots_ok _ _ _ _ roots strR (chk_ne tabR) (key, r) (roots_all key hk h1 hr r h)) v
  have hi2 : i < 9420 := hi
  by_cases h0 : i < 654
  · exact chkFrom_ok hdAt moAt ppAt tabN 654 0 str0 (chk_ne tab0) i (by omega) (by omega)
  by_cases h1 : i < 908
  · exact chkFrom_ok hdAt moAt ppAt tabN 254 654 str1 (chk_ne tab1) i (by omega) (by omega)
  by_cases h2 : i < 1211
  · exact chkFrom_ok hdAt moAt ppAt tabN 303 908 str2 (chk_ne tab2) i (by omega) (by omega)
  by_cases h3 : i < 1494
  · exact chkFrom_ok hdAt moAt ppAt tabN 283 1211 str3 (chk_ne tab3) i (by omega) (by omega)
  by_cases h4 : i < 2117
  · exact chkFrom_ok hdAt moAt ppAt tabN 623 1494 str4 (chk_ne tab4) i (by omega) (by omega)
  by_cases h5 : i < 2603
  · exact chkFrom_ok hdAt moAt ppAt tabN 486 2117 str5 (chk_ne tab5) i (by omega) (by omega)
  by_cases h6 : i < 2846
  · exact chkFrom_ok hdAt moAt ppAt tabN 243 2603 str6 (chk_ne tab6) i (by omega) (by omega)
  by_cases h7 : i < 2904
  · exact chkFrom_ok hdAt moAt ppAt tabN 58 2846 str7 (chk_ne tab7) i (by omega) (by omega)
  by_cases h8 : i < 3136
  · exact chkFrom_ok hdAt moAt ppAt tabN 232 2904 str8 (chk_ne tab8) i (by omega) (by omega)
  by_cases h9 : i < 3490
  · exact chkFrom_ok hdAt moAt ppAt tabN 354 3136 str9 (chk_ne tab9) i (by omega) (by omega)
  by_cases h10 : i < 3899
  · exact chkFrom_ok hdAt moAt ppAt tabN 409 3490 str10 (chk_ne tab10) i (by omega) (by omega)
  by_cases h11 : i < 4294
  · exact chkFrom_ok hdAt moAt ppAt tabN 395 3899 str11 (chk_ne tab11) i (by omega) (by omega)
  by_cases h12 : i < 4734
  · exact chkFrom_ok hdAt moAt ppAt tabN 440 4294 str12 (chk_ne tab12) i (by omega) (by omega)
  by_cases h13 : i < 5196
  · exact chkFrom_ok hdAt moAt ppAt tabN 462 4734 str13 (chk_ne tab13) i (by omega) (by omega)
  by_cases h14 : i < 5596
  · exact chkFrom_ok hdAt moAt ppAt tabN 400 5196 str14 (chk_ne tab14) i (by omega) (by omega)
  by_cases h15 : i < 5996
  · exact chkFrom_ok hdAt moAt ppAt tabN 400 5596 str15 (chk_ne tab15) i (by omega) (by omega)
  by_cases h16 : i < 6386
  · exact chkFrom_ok hdAt moAt ppAt tabN 390 5996 str16 (chk_ne tab16) i (by omega) (by omega)
  by_cases h17 : i < 6575
  · exact chkFrom_ok hdAt moAt ppAt tabN 189 6386 str17 (chk_ne tab17) i (by omega) (by omega)
  by_cases h18 : i < 6767
  · exact chkFrom_ok hdAt moAt ppAt tabN 192 6575 str18 (chk_ne tab18) i (by omega) (by omega)
  by_cases h19 : i < 7021
  · exact chkFrom_ok hdAt moAt ppAt tabN 254 6767 str19 (chk_ne tab19) i (by omega) (by omega)
  by_cases h20 : i < 7311
  · exact chkFrom_ok hdAt moAt ppAt tabN 290 7021 str20 (chk_ne tab20) i (by omega) (by omega)
  by_cases h21 : i < 7607
  · exact chkFrom_ok hdAt moAt ppAt tabN 296 7311 str21 (chk_ne tab21) i (by omega) (by omega)
  by_cases h22 : i < 7885
  · exact chkFrom_ok hdAt moAt ppAt tabN 278 7607 str22 (chk_ne tab22) i (by omega) (by omega)
  by_cases h23 : i < 8170
  · exact chkFrom_ok hdAt moAt ppAt tabN 285 7885 str23 (chk_ne tab23) i (by omega) (by omega)
  by_cases h24 : i < 8480
  · exact chkFrom_ok hdAt moAt ppAt tabN 310 8170 str24 (chk_ne tab24) i (by omega) (by omega)
  by_cases h25 : i < 8660
  · exact chkFrom_ok hdAt moAt ppAt tabN 180 8480 str25 (chk_ne tab25) i (by omega) (by omega)
  by_cases h26 : i < 8932
  · exact chkFrom_ok hdAt moAt ppAt tabN 272 8660 str26 (chk_ne tab26) i (by omega) (by omega)
  by_cases h27 : i < 9257
  · exact chkFrom_ok hdAt moAt ppAt tabN 325 8932 str27 (chk_ne tab27) i (by omega) (by omega)
  exact chkFrom_ok hdAt moAt ppAt tabN 163 9257 str28 (chk_ne tab28) i (by omega) (by omega)
/-- THE BOUND: the codewords that the encoder may use for a text -/
theorem codewords_le (v : List Nat) (n : Nat) (hc : ∀ c ∈ v, c < 4) (h : Run 0 v n) : 300 * n + (if v.length < 6 then 86 * v.length else 445) ≤ 386 * v.length :=
  bound_of hdAt moAt tabN tab_good v n hc h
theorem codewords_le40 (v : List Nat) (n : Nat) (hc : ∀ c ∈ v, c < 4) (h : Run 0 v n) (hl : v.length ≤ 40) : n ≤ 49 := by
  have := codewords_le v n hc h
  split at this <;> omega
theorem codewords_le1000 (v : List Nat) (n : Nat) (hc : ∀ c ∈ v, c < 4) (h : Run 0 v n) (hl : v.length ≤ 1000) : n ≤ 1285 := by
  have := codewords_le v n hc h
  split at this <;> omega
end Go.Proofs.YtcnallabiffemaaGreatDoor
