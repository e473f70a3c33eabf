import Derived.Test.YtcnallabiffemaaGreatDoorMPz

/- The reference's walk of the placement is the package's: sizes, by the kernel. -/
set_option linter.unusedVariables false
set_option linter.unusedSimpArgs false
namespace Go.Proofs.YtcnallabiffemaaGreatDoor
theorem ps_8_8 : chkS 8 8 = true := by kernel_rfl
theorem ps_10_10 : chkS 10 10 = true := by kernel_rfl
theorem ps_12_12 : chkS 12 12 = true := by kernel_rfl
theorem ps_14_14 : chkS 14 14 = true := by kernel_rfl
theorem ps_16_16 : chkS 16 16 = true := by kernel_rfl
theorem ps_18_18 : chkS 18 18 = true := by kernel_rfl
theorem ps_20_20 : chkS 20 20 = true := by kernel_rfl
theorem ps_22_22 : chkS 22 22 = true := by kernel_rfl
theorem ps_24_24 : chkS 24 24 = true := by kernel_rfl
theorem ps_28_28 : chkS 28 28 = true := by kernel_rfl
theorem ps_32_32 : chkS 32 32 = true := by kernel_rfl
theorem ps_36_36 : chkS 36 36 = true := by kernel_rfl
theorem ps_40_40 : chkS 40 40 = true := by kernel_rfl
theorem ps_44_44 : chkS 44 44 = true := by kernel_rfl
theorem ps_48_48 : chkS 48 48 = true := by kernel_rfl
theorem ps_56_56 : chkS 56 56 = true := by kernel_rfl
theorem ps_64_64 : chkS 64 64 = true := by kernel_rfl
theorem ps_72_72 : chkS 72 72 = true := by kernel_rfl
theorem ps_80_80 : chkS 80 80 = true := by kernel_rfl
theorem ps_88_88 : chkS 88 88 = true := by kernel_rfl
theorem ps_96_96 : chkS 96 96 = true := by kernel_rfl
theorem ps_6_16 : chkS 6 16 = true := by kernel_rfl
theorem ps_6_28 : chkS 6 28 = true := by kernel_rfl
theorem ps_10_24 : chkS 10 24 = true := by kernel_rfl
theorem ps_10_32 : chkS 10 32 = true := by kernel_rfl
theorem ps_14_32 : chkS 14 32 = true := by kernel_rfl
theorem ps_14_44 : chkS 14 44 = true := by kernel_rfl
end Go.Proofs.YtcnallabiffemaaGreatDoor

/- The reference's walk of the placement is the package's: sizes, by the kernel. -/
set_option linter.unusedVariables false
set_option linter.unusedSimpArgs false
namespace Go.Proofs.YtcnallabiffemaaGreatDoor
theorem ps_108_108 : chkS 108 108 = true := by kernel_rfl
theorem ps_120_120 : chkS 120 120 = true := by kernel_rfl
theorem chkS_ok (x : Nat × Nat × Nat) (hx : x ∈ sizes) : chkS x.1 x.2.1 = true := by
  simp only [sizes, List.mem_cons, List.not_mem_nil, or_false] at hx
  rcases hx with rfl | rfl | rfl | rfl | rfl | rfl | rfl | rfl | rfl | rfl | rfl | rfl | rfl | rfl | rfl | rfl | rfl | rfl | rfl | rfl | rfl | rfl | rfl | rfl | rfl | rfl | rfl | rfl | rfl
  · exact ps_8_8
  · exact ps_10_10
  · exact ps_12_12
  · exact ps_14_14
  · exact ps_16_16
  · exact ps_18_18
  · exact ps_20_20
  · exact ps_22_22
  · exact ps_24_24
  · exact ps_28_28
  · exact ps_32_32
  · exact ps_36_36
  · exact ps_40_40
  · exact ps_44_44
  · exact ps_48_48
  · exact ps_56_56
  · exact ps_64_64
  · exact ps_72_72
  · exact ps_80_80
  · exact ps_88_88
  · exact ps_96_96
  · exact ps_108_108
  · exact ps_120_120
  · exact ps_6_16
  · exact ps_6_28
  · exact ps_10_24
  · exact ps_10_32
  · exact ps_14_32
  · exact ps_14_44
end Go.Proofs.YtcnallabiffemaaGreatDoor
