/-
  THE WALK of zzFloatAutomaton.
-/
import Derived.Test.Qxb6000618aLawSign
import Derived.Test.Qxb6000618aPlainAuto
namespace Go.Proofs.Qxb6000618a
open Go.RowKit Plain

theorem zzIsDigit_any (c : UInt8) (w : World) : Calls Try.prog 22 #[.int .u8 (c.toNat : Int)] w fun e w' => e = .returned (.bool (dig c)) ∧ w = w' := by
  go_enter Try.func22, Try.ntmps22
  go_wp2
  all_goals
    go_ret
    exact ⟨ret_bool (by unfold dig; rw [Bool.eq_iff_iff]; simp; omega), rfl⟩

set_option linter.unusedSimpArgs false
set_option linter.unusedVariables false
theorem wy_0_0 (c : UInt8) (h0 : (c.toNat : Int) = 43) : astep 0 c = some 1 := by
  have b43 : ((c.toNat : Int) == 43) = (c == 43) := beq_u8 c 43
  have b45 : ((c.toNat : Int) == 45) = (c == 45) := beq_u8 c 45
  have b48 : ((c.toNat : Int) == 48) = (c == 48) := beq_u8 c 48
  have b46 : ((c.toNat : Int) == 46) = (c == 46) := beq_u8 c 46
  have b95 : ((c.toNat : Int) == 95) = (c == 95) := beq_u8 c 95
  simp_all [astep, isSign]
theorem wy_0_1 (c : UInt8) (h0 : ¬ (c.toNat : Int) = 43) (h1 : ((c.toNat : Int) == 43) = true ∨ ((c.toNat : Int) == 45) = true) : astep 0 c = some 1 := by
  have b43 : ((c.toNat : Int) == 43) = (c == 43) := beq_u8 c 43
  have b45 : ((c.toNat : Int) == 45) = (c == 45) := beq_u8 c 45
  have b48 : ((c.toNat : Int) == 48) = (c == 48) := beq_u8 c 48
  have b46 : ((c.toNat : Int) == 46) = (c == 46) := beq_u8 c 46
  have b95 : ((c.toNat : Int) == 95) = (c == 95) := beq_u8 c 95
  simp_all [astep, isSign]
theorem wy_0_2 (c : UInt8) (h0 : ¬ (c.toNat : Int) = 43) (h1 : ((c.toNat : Int) == 43) = false ∧ ((c.toNat : Int) == 45) = false) (h2 : ((c.toNat : Int) == 48) = true) : astep 0 c = some 2 := by
  have b43 : ((c.toNat : Int) == 43) = (c == 43) := beq_u8 c 43
  have b45 : ((c.toNat : Int) == 45) = (c == 45) := beq_u8 c 45
  have b48 : ((c.toNat : Int) == 48) = (c == 48) := beq_u8 c 48
  have b46 : ((c.toNat : Int) == 46) = (c == 46) := beq_u8 c 46
  have b95 : ((c.toNat : Int) == 95) = (c == 95) := beq_u8 c 95
  simp_all [astep, isSign]
theorem wy_0_3 (c : UInt8) (h0 : ¬ (c.toNat : Int) = 43) (h1 : ((c.toNat : Int) == 43) = false ∧ ((c.toNat : Int) == 45) = false) (h2 : ((c.toNat : Int) == 48) = false) (h3 : dig c = true) : astep 0 c = some 3 := by
  have b43 : ((c.toNat : Int) == 43) = (c == 43) := beq_u8 c 43
  have b45 : ((c.toNat : Int) == 45) = (c == 45) := beq_u8 c 45
  have b48 : ((c.toNat : Int) == 48) = (c == 48) := beq_u8 c 48
  have b46 : ((c.toNat : Int) == 46) = (c == 46) := beq_u8 c 46
  have b95 : ((c.toNat : Int) == 95) = (c == 95) := beq_u8 c 95
  simp_all [astep, isSign]
theorem wy_0_4 (c : UInt8) (h0 : ¬ (c.toNat : Int) = 43) (h1 : ((c.toNat : Int) == 43) = false ∧ ((c.toNat : Int) == 45) = false) (h2 : ((c.toNat : Int) == 48) = false) (h3 : dig c = false) : astep 0 c = none := by
  have b43 : ((c.toNat : Int) == 43) = (c == 43) := beq_u8 c 43
  have b45 : ((c.toNat : Int) == 45) = (c == 45) := beq_u8 c 45
  have b48 : ((c.toNat : Int) == 48) = (c == 48) := beq_u8 c 48
  have b46 : ((c.toNat : Int) == 46) = (c == 46) := beq_u8 c 46
  have b95 : ((c.toNat : Int) == 95) = (c == 95) := beq_u8 c 95
  simp_all [astep, isSign]
theorem wy_1_0 (c : UInt8) (h0 : ((c.toNat : Int) == 48) = true) : astep 1 c = some 2 := by
  have b43 : ((c.toNat : Int) == 43) = (c == 43) := beq_u8 c 43
  have b45 : ((c.toNat : Int) == 45) = (c == 45) := beq_u8 c 45
  have b48 : ((c.toNat : Int) == 48) = (c == 48) := beq_u8 c 48
  have b46 : ((c.toNat : Int) == 46) = (c == 46) := beq_u8 c 46
  have b95 : ((c.toNat : Int) == 95) = (c == 95) := beq_u8 c 95
  simp_all [astep, isSign]
theorem wy_1_1 (c : UInt8) (h0 : ((c.toNat : Int) == 48) = false) (h1 : dig c = true) : astep 1 c = some 3 := by
  have b43 : ((c.toNat : Int) == 43) = (c == 43) := beq_u8 c 43
  have b45 : ((c.toNat : Int) == 45) = (c == 45) := beq_u8 c 45
  have b48 : ((c.toNat : Int) == 48) = (c == 48) := beq_u8 c 48
  have b46 : ((c.toNat : Int) == 46) = (c == 46) := beq_u8 c 46
  have b95 : ((c.toNat : Int) == 95) = (c == 95) := beq_u8 c 95
  simp_all [astep, isSign]
theorem wy_1_2 (c : UInt8) (h0 : ((c.toNat : Int) == 48) = false) (h1 : dig c = false) : astep 1 c = none := by
  have b43 : ((c.toNat : Int) == 43) = (c == 43) := beq_u8 c 43
  have b45 : ((c.toNat : Int) == 45) = (c == 45) := beq_u8 c 45
  have b48 : ((c.toNat : Int) == 48) = (c == 48) := beq_u8 c 48
  have b46 : ((c.toNat : Int) == 46) = (c == 46) := beq_u8 c 46
  have b95 : ((c.toNat : Int) == 95) = (c == 95) := beq_u8 c 95
  simp_all [astep, isSign]
theorem wy_2_0 (c : UInt8) (h0 : ((c.toNat : Int) == 46) = true) : astep 2 c = some 5 := by
  have b43 : ((c.toNat : Int) == 43) = (c == 43) := beq_u8 c 43
  have b45 : ((c.toNat : Int) == 45) = (c == 45) := beq_u8 c 45
  have b48 : ((c.toNat : Int) == 48) = (c == 48) := beq_u8 c 48
  have b46 : ((c.toNat : Int) == 46) = (c == 46) := beq_u8 c 46
  have b95 : ((c.toNat : Int) == 95) = (c == 95) := beq_u8 c 95
  simp_all [astep, isSign]
theorem wy_2_1 (c : UInt8) (h0 : ((c.toNat : Int) == 46) = false) (h1 : isE c = true) : astep 2 c = some 8 := by
  have b43 : ((c.toNat : Int) == 43) = (c == 43) := beq_u8 c 43
  have b45 : ((c.toNat : Int) == 45) = (c == 45) := beq_u8 c 45
  have b48 : ((c.toNat : Int) == 48) = (c == 48) := beq_u8 c 48
  have b46 : ((c.toNat : Int) == 46) = (c == 46) := beq_u8 c 46
  have b95 : ((c.toNat : Int) == 95) = (c == 95) := beq_u8 c 95
  simp_all [astep, isSign]
theorem wy_2_2 (c : UInt8) (h0 : ((c.toNat : Int) == 46) = false) (h1 : isE c = false) : astep 2 c = none := by
  have b43 : ((c.toNat : Int) == 43) = (c == 43) := beq_u8 c 43
  have b45 : ((c.toNat : Int) == 45) = (c == 45) := beq_u8 c 45
  have b48 : ((c.toNat : Int) == 48) = (c == 48) := beq_u8 c 48
  have b46 : ((c.toNat : Int) == 46) = (c == 46) := beq_u8 c 46
  have b95 : ((c.toNat : Int) == 95) = (c == 95) := beq_u8 c 95
  simp_all [astep, isSign]
theorem wy_3_0 (c : UInt8) (h0 : dig c = true) : astep 3 c = some 3 := by
  have b43 : ((c.toNat : Int) == 43) = (c == 43) := beq_u8 c 43
  have b45 : ((c.toNat : Int) == 45) = (c == 45) := beq_u8 c 45
  have b48 : ((c.toNat : Int) == 48) = (c == 48) := beq_u8 c 48
  have b46 : ((c.toNat : Int) == 46) = (c == 46) := beq_u8 c 46
  have b95 : ((c.toNat : Int) == 95) = (c == 95) := beq_u8 c 95
  simp_all [astep, isSign]
theorem wy_3_1 (c : UInt8) (h0 : dig c = false) (h1 : ((c.toNat : Int) == 95) = true) : astep 3 c = some 4 := by
  have b43 : ((c.toNat : Int) == 43) = (c == 43) := beq_u8 c 43
  have b45 : ((c.toNat : Int) == 45) = (c == 45) := beq_u8 c 45
  have b48 : ((c.toNat : Int) == 48) = (c == 48) := beq_u8 c 48
  have b46 : ((c.toNat : Int) == 46) = (c == 46) := beq_u8 c 46
  have b95 : ((c.toNat : Int) == 95) = (c == 95) := beq_u8 c 95
  simp_all [astep, isSign]
theorem wy_3_2 (c : UInt8) (h0 : dig c = false) (h1 : ((c.toNat : Int) == 95) = false) (h2 : ((c.toNat : Int) == 46) = true) : astep 3 c = some 5 := by
  have b43 : ((c.toNat : Int) == 43) = (c == 43) := beq_u8 c 43
  have b45 : ((c.toNat : Int) == 45) = (c == 45) := beq_u8 c 45
  have b48 : ((c.toNat : Int) == 48) = (c == 48) := beq_u8 c 48
  have b46 : ((c.toNat : Int) == 46) = (c == 46) := beq_u8 c 46
  have b95 : ((c.toNat : Int) == 95) = (c == 95) := beq_u8 c 95
  simp_all [astep, isSign]
theorem wy_3_3 (c : UInt8) (h0 : dig c = false) (h1 : ((c.toNat : Int) == 95) = false) (h2 : ((c.toNat : Int) == 46) = false) (h3 : isE c = true) : astep 3 c = some 8 := by
  have b43 : ((c.toNat : Int) == 43) = (c == 43) := beq_u8 c 43
  have b45 : ((c.toNat : Int) == 45) = (c == 45) := beq_u8 c 45
  have b48 : ((c.toNat : Int) == 48) = (c == 48) := beq_u8 c 48
  have b46 : ((c.toNat : Int) == 46) = (c == 46) := beq_u8 c 46
  have b95 : ((c.toNat : Int) == 95) = (c == 95) := beq_u8 c 95
  simp_all [astep, isSign]
theorem wy_3_4 (c : UInt8) (h0 : dig c = false) (h1 : ((c.toNat : Int) == 95) = false) (h2 : ((c.toNat : Int) == 46) = false) (h3 : isE c = false) : astep 3 c = none := by
  have b43 : ((c.toNat : Int) == 43) = (c == 43) := beq_u8 c 43
  have b45 : ((c.toNat : Int) == 45) = (c == 45) := beq_u8 c 45
  have b48 : ((c.toNat : Int) == 48) = (c == 48) := beq_u8 c 48
  have b46 : ((c.toNat : Int) == 46) = (c == 46) := beq_u8 c 46
  have b95 : ((c.toNat : Int) == 95) = (c == 95) := beq_u8 c 95
  simp_all [astep, isSign]
theorem wy_4_0 (c : UInt8) (h0 : dig c = true) : astep 4 c = some 3 := by
  have b43 : ((c.toNat : Int) == 43) = (c == 43) := beq_u8 c 43
  have b45 : ((c.toNat : Int) == 45) = (c == 45) := beq_u8 c 45
  have b48 : ((c.toNat : Int) == 48) = (c == 48) := beq_u8 c 48
  have b46 : ((c.toNat : Int) == 46) = (c == 46) := beq_u8 c 46
  have b95 : ((c.toNat : Int) == 95) = (c == 95) := beq_u8 c 95
  simp_all [astep, isSign]
theorem wy_4_1 (c : UInt8) (h0 : dig c = false) : astep 4 c = none := by
  have b43 : ((c.toNat : Int) == 43) = (c == 43) := beq_u8 c 43
  have b45 : ((c.toNat : Int) == 45) = (c == 45) := beq_u8 c 45
  have b48 : ((c.toNat : Int) == 48) = (c == 48) := beq_u8 c 48
  have b46 : ((c.toNat : Int) == 46) = (c == 46) := beq_u8 c 46
  have b95 : ((c.toNat : Int) == 95) = (c == 95) := beq_u8 c 95
  simp_all [astep, isSign]
theorem wy_5_0 (c : UInt8) (h0 : dig c = true) : astep 5 c = some 6 := by
  have b43 : ((c.toNat : Int) == 43) = (c == 43) := beq_u8 c 43
  have b45 : ((c.toNat : Int) == 45) = (c == 45) := beq_u8 c 45
  have b48 : ((c.toNat : Int) == 48) = (c == 48) := beq_u8 c 48
  have b46 : ((c.toNat : Int) == 46) = (c == 46) := beq_u8 c 46
  have b95 : ((c.toNat : Int) == 95) = (c == 95) := beq_u8 c 95
  simp_all [astep, isSign]
theorem wy_5_1 (c : UInt8) (h0 : dig c = false) : astep 5 c = none := by
  have b43 : ((c.toNat : Int) == 43) = (c == 43) := beq_u8 c 43
  have b45 : ((c.toNat : Int) == 45) = (c == 45) := beq_u8 c 45
  have b48 : ((c.toNat : Int) == 48) = (c == 48) := beq_u8 c 48
  have b46 : ((c.toNat : Int) == 46) = (c == 46) := beq_u8 c 46
  have b95 : ((c.toNat : Int) == 95) = (c == 95) := beq_u8 c 95
  simp_all [astep, isSign]
theorem wy_6_0 (c : UInt8) (h0 : dig c = true) : astep 6 c = some 6 := by
  have b43 : ((c.toNat : Int) == 43) = (c == 43) := beq_u8 c 43
  have b45 : ((c.toNat : Int) == 45) = (c == 45) := beq_u8 c 45
  have b48 : ((c.toNat : Int) == 48) = (c == 48) := beq_u8 c 48
  have b46 : ((c.toNat : Int) == 46) = (c == 46) := beq_u8 c 46
  have b95 : ((c.toNat : Int) == 95) = (c == 95) := beq_u8 c 95
  simp_all [astep, isSign]
theorem wy_6_1 (c : UInt8) (h0 : dig c = false) (h1 : ((c.toNat : Int) == 95) = true) : astep 6 c = some 7 := by
  have b43 : ((c.toNat : Int) == 43) = (c == 43) := beq_u8 c 43
  have b45 : ((c.toNat : Int) == 45) = (c == 45) := beq_u8 c 45
  have b48 : ((c.toNat : Int) == 48) = (c == 48) := beq_u8 c 48
  have b46 : ((c.toNat : Int) == 46) = (c == 46) := beq_u8 c 46
  have b95 : ((c.toNat : Int) == 95) = (c == 95) := beq_u8 c 95
  simp_all [astep, isSign]
theorem wy_6_2 (c : UInt8) (h0 : dig c = false) (h1 : ((c.toNat : Int) == 95) = false) (h2 : isE c = true) : astep 6 c = some 8 := by
  have b43 : ((c.toNat : Int) == 43) = (c == 43) := beq_u8 c 43
  have b45 : ((c.toNat : Int) == 45) = (c == 45) := beq_u8 c 45
  have b48 : ((c.toNat : Int) == 48) = (c == 48) := beq_u8 c 48
  have b46 : ((c.toNat : Int) == 46) = (c == 46) := beq_u8 c 46
  have b95 : ((c.toNat : Int) == 95) = (c == 95) := beq_u8 c 95
  simp_all [astep, isSign]
theorem wy_6_3 (c : UInt8) (h0 : dig c = false) (h1 : ((c.toNat : Int) == 95) = false) (h2 : isE c = false) : astep 6 c = none := by
  have b43 : ((c.toNat : Int) == 43) = (c == 43) := beq_u8 c 43
  have b45 : ((c.toNat : Int) == 45) = (c == 45) := beq_u8 c 45
  have b48 : ((c.toNat : Int) == 48) = (c == 48) := beq_u8 c 48
  have b46 : ((c.toNat : Int) == 46) = (c == 46) := beq_u8 c 46
  have b95 : ((c.toNat : Int) == 95) = (c == 95) := beq_u8 c 95
  simp_all [astep, isSign]
theorem wy_7_0 (c : UInt8) (h0 : dig c = true) : astep 7 c = some 6 := by
  have b43 : ((c.toNat : Int) == 43) = (c == 43) := beq_u8 c 43
  have b45 : ((c.toNat : Int) == 45) = (c == 45) := beq_u8 c 45
  have b48 : ((c.toNat : Int) == 48) = (c == 48) := beq_u8 c 48
  have b46 : ((c.toNat : Int) == 46) = (c == 46) := beq_u8 c 46
  have b95 : ((c.toNat : Int) == 95) = (c == 95) := beq_u8 c 95
  simp_all [astep, isSign]
theorem wy_7_1 (c : UInt8) (h0 : dig c = false) : astep 7 c = none := by
  have b43 : ((c.toNat : Int) == 43) = (c == 43) := beq_u8 c 43
  have b45 : ((c.toNat : Int) == 45) = (c == 45) := beq_u8 c 45
  have b48 : ((c.toNat : Int) == 48) = (c == 48) := beq_u8 c 48
  have b46 : ((c.toNat : Int) == 46) = (c == 46) := beq_u8 c 46
  have b95 : ((c.toNat : Int) == 95) = (c == 95) := beq_u8 c 95
  simp_all [astep, isSign]
theorem wy_8_0 (c : UInt8) (h0 : (c.toNat : Int) = 43) : astep 8 c = some 9 := by
  have b43 : ((c.toNat : Int) == 43) = (c == 43) := beq_u8 c 43
  have b45 : ((c.toNat : Int) == 45) = (c == 45) := beq_u8 c 45
  have b48 : ((c.toNat : Int) == 48) = (c == 48) := beq_u8 c 48
  have b46 : ((c.toNat : Int) == 46) = (c == 46) := beq_u8 c 46
  have b95 : ((c.toNat : Int) == 95) = (c == 95) := beq_u8 c 95
  simp_all [astep, isSign]
theorem wy_8_1 (c : UInt8) (h0 : ¬ (c.toNat : Int) = 43) (h1 : ((c.toNat : Int) == 43) = true ∨ ((c.toNat : Int) == 45) = true) : astep 8 c = some 9 := by
  have b43 : ((c.toNat : Int) == 43) = (c == 43) := beq_u8 c 43
  have b45 : ((c.toNat : Int) == 45) = (c == 45) := beq_u8 c 45
  have b48 : ((c.toNat : Int) == 48) = (c == 48) := beq_u8 c 48
  have b46 : ((c.toNat : Int) == 46) = (c == 46) := beq_u8 c 46
  have b95 : ((c.toNat : Int) == 95) = (c == 95) := beq_u8 c 95
  simp_all [astep, isSign]
theorem wy_8_2 (c : UInt8) (h0 : ¬ (c.toNat : Int) = 43) (h1 : ((c.toNat : Int) == 43) = false ∧ ((c.toNat : Int) == 45) = false) (h2 : dig c = true) : astep 8 c = some 10 := by
  have b43 : ((c.toNat : Int) == 43) = (c == 43) := beq_u8 c 43
  have b45 : ((c.toNat : Int) == 45) = (c == 45) := beq_u8 c 45
  have b48 : ((c.toNat : Int) == 48) = (c == 48) := beq_u8 c 48
  have b46 : ((c.toNat : Int) == 46) = (c == 46) := beq_u8 c 46
  have b95 : ((c.toNat : Int) == 95) = (c == 95) := beq_u8 c 95
  simp_all [astep, isSign]
theorem wy_8_3 (c : UInt8) (h0 : ¬ (c.toNat : Int) = 43) (h1 : ((c.toNat : Int) == 43) = false ∧ ((c.toNat : Int) == 45) = false) (h2 : dig c = false) : astep 8 c = none := by
  have b43 : ((c.toNat : Int) == 43) = (c == 43) := beq_u8 c 43
  have b45 : ((c.toNat : Int) == 45) = (c == 45) := beq_u8 c 45
  have b48 : ((c.toNat : Int) == 48) = (c == 48) := beq_u8 c 48
  have b46 : ((c.toNat : Int) == 46) = (c == 46) := beq_u8 c 46
  have b95 : ((c.toNat : Int) == 95) = (c == 95) := beq_u8 c 95
  simp_all [astep, isSign]
theorem wy_9_0 (c : UInt8) (h0 : dig c = true) : astep 9 c = some 10 := by
  have b43 : ((c.toNat : Int) == 43) = (c == 43) := beq_u8 c 43
  have b45 : ((c.toNat : Int) == 45) = (c == 45) := beq_u8 c 45
  have b48 : ((c.toNat : Int) == 48) = (c == 48) := beq_u8 c 48
  have b46 : ((c.toNat : Int) == 46) = (c == 46) := beq_u8 c 46
  have b95 : ((c.toNat : Int) == 95) = (c == 95) := beq_u8 c 95
  simp_all [astep, isSign]
theorem wy_9_1 (c : UInt8) (h0 : dig c = false) : astep 9 c = none := by
  have b43 : ((c.toNat : Int) == 43) = (c == 43) := beq_u8 c 43
  have b45 : ((c.toNat : Int) == 45) = (c == 45) := beq_u8 c 45
  have b48 : ((c.toNat : Int) == 48) = (c == 48) := beq_u8 c 48
  have b46 : ((c.toNat : Int) == 46) = (c == 46) := beq_u8 c 46
  have b95 : ((c.toNat : Int) == 95) = (c == 95) := beq_u8 c 95
  simp_all [astep, isSign]
theorem wy_10_0 (c : UInt8) (h0 : dig c = true) : astep 10 c = some 10 := by
  have b43 : ((c.toNat : Int) == 43) = (c == 43) := beq_u8 c 43
  have b45 : ((c.toNat : Int) == 45) = (c == 45) := beq_u8 c 45
  have b48 : ((c.toNat : Int) == 48) = (c == 48) := beq_u8 c 48
  have b46 : ((c.toNat : Int) == 46) = (c == 46) := beq_u8 c 46
  have b95 : ((c.toNat : Int) == 95) = (c == 95) := beq_u8 c 95
  simp_all [astep, isSign]
theorem wy_10_1 (c : UInt8) (h0 : dig c = false) (h1 : ((c.toNat : Int) == 95) = true) : astep 10 c = some 11 := by
  have b43 : ((c.toNat : Int) == 43) = (c == 43) := beq_u8 c 43
  have b45 : ((c.toNat : Int) == 45) = (c == 45) := beq_u8 c 45
  have b48 : ((c.toNat : Int) == 48) = (c == 48) := beq_u8 c 48
  have b46 : ((c.toNat : Int) == 46) = (c == 46) := beq_u8 c 46
  have b95 : ((c.toNat : Int) == 95) = (c == 95) := beq_u8 c 95
  simp_all [astep, isSign]
theorem wy_10_2 (c : UInt8) (h0 : dig c = false) (h1 : ((c.toNat : Int) == 95) = false) : astep 10 c = none := by
  have b43 : ((c.toNat : Int) == 43) = (c == 43) := beq_u8 c 43
  have b45 : ((c.toNat : Int) == 45) = (c == 45) := beq_u8 c 45
  have b48 : ((c.toNat : Int) == 48) = (c == 48) := beq_u8 c 48
  have b46 : ((c.toNat : Int) == 46) = (c == 46) := beq_u8 c 46
  have b95 : ((c.toNat : Int) == 95) = (c == 95) := beq_u8 c 95
  simp_all [astep, isSign]
theorem wy_11_0 (c : UInt8) (h0 : dig c = true) : astep 11 c = some 10 := by
  have b43 : ((c.toNat : Int) == 43) = (c == 43) := beq_u8 c 43
  have b45 : ((c.toNat : Int) == 45) = (c == 45) := beq_u8 c 45
  have b48 : ((c.toNat : Int) == 48) = (c == 48) := beq_u8 c 48
  have b46 : ((c.toNat : Int) == 46) = (c == 46) := beq_u8 c 46
  have b95 : ((c.toNat : Int) == 95) = (c == 95) := beq_u8 c 95
  simp_all [astep, isSign]
theorem wy_11_1 (c : UInt8) (h0 : dig c = false) : astep 11 c = none := by
  have b43 : ((c.toNat : Int) == 43) = (c == 43) := beq_u8 c 43
  have b45 : ((c.toNat : Int) == 45) = (c == 45) := beq_u8 c 45
  have b48 : ((c.toNat : Int) == 48) = (c == 48) := beq_u8 c 48
  have b46 : ((c.toNat : Int) == 46) = (c == 46) := beq_u8 c 46
  have b95 : ((c.toNat : Int) == 95) = (c == 95) := beq_u8 c 95
  simp_all [astep, isSign]
theorem st_end (st : Nat) : ((st : Int) == 6 || (st : Int) == 10) = (st == 6 || st == 10) := by
  rw [Bool.eq_iff_iff]; simp; omega

set_option maxRecDepth 4000 in
set_option maxHeartbeats 4000000 in
theorem auto_any (s : ByteArray) (w : World) (hs : s.size ≤ 2000000) : Calls Try.prog 16 #[.string s] w fun e w' => e = .returned (.bool (arun 0 s.data.toList)) ∧ w = w' := by
  go_enter Try.func16, Try.ntmps16
  go_wp2
  go_loop [3, 4] (fun sst sk => ∃ k st : Nat, k ≤ s.size ∧ st ≤ 11 ∧ sk = .int .i64 k ∧ sst = .int .i64 st ∧ Hid (arun 0 s.data.toList = arun st (s.data.toList.drop k))) (fun _ sk => s.size - (intOf sk).toNat)
  case atStart => exact ⟨0, 0, by omega, by omega, rfl, rfl, rfl⟩
  case round =>
    obtain ⟨k, st, hk, hst, rfl, rfl, HR⟩ := hrel
    by_cases hlt : k < s.size
    · go_upto_region 7 with (go_at_call 22; refine (zzIsDigit_any _ _).mono ?_; rintro e w' ⟨rfl, rfl⟩)
      go_cut [5, 7] from 8 to 87 (fun s5 s7 wx => s5 = .int .u8 (s[k].toNat : Int) ∧ s7 = .bool (isE s[k]) ∧ w = wx)
      case first =>
        go_wp2_with fail
        · have h5 : (s[k] == 101) = true := beqn _ 101 (by assumption)
          have h6 : (s[k].toNat : Int) = 101 := by assumption
          go_meet
          exact ⟨by first | rfl | rw [h6], by unfold isE; rw [h5]; rfl, rfl⟩
        · go_meet
          have e1 : ((s[k].toNat : Int) == 101) = (s[k] == 101) := beq_u8 _ 101
          have e2 : ((s[k].toNat : Int) == 69) = (s[k] == 69) := beq_u8 _ 69
          exact ⟨rfl, by unfold isE; rw [← e1, ← e2], rfl⟩
      case rest =>
      obtain ⟨rfl, rfl, rfl⟩ := hcut
      match st, hst, HR with
      | 0, _, HR =>
        go_wp2_with fail
        · go_round
          case rel => exact ⟨k + 1, 1, by omega, by omega, by go_num, rfl, by show _ = _; rw [HR.out, drop_cons s k hlt, arun_some _ _ _ _ (wy_0_0 _ ‹_›)]⟩
          case measure => simp [intOf]; omega
        · go_round
          case rel => exact ⟨k + 1, 1, by omega, by omega, by go_num, rfl, by show _ = _; rw [HR.out, drop_cons s k hlt, arun_some _ _ _ _ (wy_0_1 _ ‹_› ‹_›)]⟩
          case measure => simp [intOf]; omega
        · go_round
          case rel => exact ⟨k + 1, 2, by omega, by omega, by go_num, rfl, by show _ = _; rw [HR.out, drop_cons s k hlt, arun_some _ _ _ _ (wy_0_2 _ ‹_› ‹_› ‹_›)]⟩
          case measure => simp [intOf]; omega
        · go_round
          case rel => exact ⟨k + 1, 3, by omega, by omega, by go_num, rfl, by show _ = _; rw [HR.out, drop_cons s k hlt, arun_some _ _ _ _ (wy_0_3 _ ‹_› ‹_› ‹_› ‹_›)]⟩
          case measure => simp [intOf]; omega
        · go_ret
          exact ⟨ret_bool (by rw [HR.out, drop_cons s k hlt, arun_none _ _ _ (wy_0_4 _ ‹_› ‹_› ‹_› ‹_›)]), rfl⟩
      | 1, _, HR =>
        go_wp2_with fail
        · go_round
          case rel => exact ⟨k + 1, 2, by omega, by omega, by go_num, rfl, by show _ = _; rw [HR.out, drop_cons s k hlt, arun_some _ _ _ _ (wy_1_0 _ ‹_›)]⟩
          case measure => simp [intOf]; omega
        · go_round
          case rel => exact ⟨k + 1, 3, by omega, by omega, by go_num, rfl, by show _ = _; rw [HR.out, drop_cons s k hlt, arun_some _ _ _ _ (wy_1_1 _ ‹_› ‹_›)]⟩
          case measure => simp [intOf]; omega
        · go_ret
          exact ⟨ret_bool (by rw [HR.out, drop_cons s k hlt, arun_none _ _ _ (wy_1_2 _ ‹_› ‹_›)]), rfl⟩
      | 2, _, HR =>
        go_wp2_with fail
        · go_round
          case rel => exact ⟨k + 1, 5, by omega, by omega, by go_num, rfl, by show _ = _; rw [HR.out, drop_cons s k hlt, arun_some _ _ _ _ (wy_2_0 _ ‹_›)]⟩
          case measure => simp [intOf]; omega
        · go_round
          case rel => exact ⟨k + 1, 8, by omega, by omega, by go_num, rfl, by show _ = _; rw [HR.out, drop_cons s k hlt, arun_some _ _ _ _ (wy_2_1 _ ‹_› ‹_›)]⟩
          case measure => simp [intOf]; omega
        · go_ret
          exact ⟨ret_bool (by rw [HR.out, drop_cons s k hlt, arun_none _ _ _ (wy_2_2 _ ‹_› ‹_›)]), rfl⟩
      | 3, _, HR =>
        go_wp2_with fail
        · go_round
          case rel => exact ⟨k + 1, 3, by omega, by omega, by go_num, rfl, by show _ = _; rw [HR.out, drop_cons s k hlt, arun_some _ _ _ _ (wy_3_0 _ ‹_›)]⟩
          case measure => simp [intOf]; omega
        · go_round
          case rel => exact ⟨k + 1, 4, by omega, by omega, by go_num, rfl, by show _ = _; rw [HR.out, drop_cons s k hlt, arun_some _ _ _ _ (wy_3_1 _ ‹_› ‹_›)]⟩
          case measure => simp [intOf]; omega
        · go_round
          case rel => exact ⟨k + 1, 5, by omega, by omega, by go_num, rfl, by show _ = _; rw [HR.out, drop_cons s k hlt, arun_some _ _ _ _ (wy_3_2 _ ‹_› ‹_› ‹_›)]⟩
          case measure => simp [intOf]; omega
        · go_round
          case rel => exact ⟨k + 1, 8, by omega, by omega, by go_num, rfl, by show _ = _; rw [HR.out, drop_cons s k hlt, arun_some _ _ _ _ (wy_3_3 _ ‹_› ‹_› ‹_› ‹_›)]⟩
          case measure => simp [intOf]; omega
        · go_ret
          exact ⟨ret_bool (by rw [HR.out, drop_cons s k hlt, arun_none _ _ _ (wy_3_4 _ ‹_› ‹_› ‹_› ‹_›)]), rfl⟩
      | 4, _, HR =>
        go_wp2_with fail
        · go_round
          case rel => exact ⟨k + 1, 3, by omega, by omega, by go_num, rfl, by show _ = _; rw [HR.out, drop_cons s k hlt, arun_some _ _ _ _ (wy_4_0 _ ‹_›)]⟩
          case measure => simp [intOf]; omega
        · go_ret
          exact ⟨ret_bool (by rw [HR.out, drop_cons s k hlt, arun_none _ _ _ (wy_4_1 _ ‹_›)]), rfl⟩
      | 5, _, HR =>
        go_wp2_with fail
        · go_round
          case rel => exact ⟨k + 1, 6, by omega, by omega, by go_num, rfl, by show _ = _; rw [HR.out, drop_cons s k hlt, arun_some _ _ _ _ (wy_5_0 _ ‹_›)]⟩
          case measure => simp [intOf]; omega
        · go_ret
          exact ⟨ret_bool (by rw [HR.out, drop_cons s k hlt, arun_none _ _ _ (wy_5_1 _ ‹_›)]), rfl⟩
      | 6, _, HR =>
        go_wp2_with fail
        · go_round
          case rel => exact ⟨k + 1, 6, by omega, by omega, by go_num, rfl, by show _ = _; rw [HR.out, drop_cons s k hlt, arun_some _ _ _ _ (wy_6_0 _ ‹_›)]⟩
          case measure => simp [intOf]; omega
        · go_round
          case rel => exact ⟨k + 1, 7, by omega, by omega, by go_num, rfl, by show _ = _; rw [HR.out, drop_cons s k hlt, arun_some _ _ _ _ (wy_6_1 _ ‹_› ‹_›)]⟩
          case measure => simp [intOf]; omega
        · go_round
          case rel => exact ⟨k + 1, 8, by omega, by omega, by go_num, rfl, by show _ = _; rw [HR.out, drop_cons s k hlt, arun_some _ _ _ _ (wy_6_2 _ ‹_› ‹_› ‹_›)]⟩
          case measure => simp [intOf]; omega
        · go_ret
          exact ⟨ret_bool (by rw [HR.out, drop_cons s k hlt, arun_none _ _ _ (wy_6_3 _ ‹_› ‹_› ‹_›)]), rfl⟩
      | 7, _, HR =>
        go_wp2_with fail
        · go_round
          case rel => exact ⟨k + 1, 6, by omega, by omega, by go_num, rfl, by show _ = _; rw [HR.out, drop_cons s k hlt, arun_some _ _ _ _ (wy_7_0 _ ‹_›)]⟩
          case measure => simp [intOf]; omega
        · go_ret
          exact ⟨ret_bool (by rw [HR.out, drop_cons s k hlt, arun_none _ _ _ (wy_7_1 _ ‹_›)]), rfl⟩
      | 8, _, HR =>
        go_wp2_with fail
        · go_round
          case rel => exact ⟨k + 1, 9, by omega, by omega, by go_num, rfl, by show _ = _; rw [HR.out, drop_cons s k hlt, arun_some _ _ _ _ (wy_8_0 _ ‹_›)]⟩
          case measure => simp [intOf]; omega
        · go_round
          case rel => exact ⟨k + 1, 9, by omega, by omega, by go_num, rfl, by show _ = _; rw [HR.out, drop_cons s k hlt, arun_some _ _ _ _ (wy_8_1 _ ‹_› ‹_›)]⟩
          case measure => simp [intOf]; omega
        · go_round
          case rel => exact ⟨k + 1, 10, by omega, by omega, by go_num, rfl, by show _ = _; rw [HR.out, drop_cons s k hlt, arun_some _ _ _ _ (wy_8_2 _ ‹_› ‹_› ‹_›)]⟩
          case measure => simp [intOf]; omega
        · go_ret
          exact ⟨ret_bool (by rw [HR.out, drop_cons s k hlt, arun_none _ _ _ (wy_8_3 _ ‹_› ‹_› ‹_›)]), rfl⟩
      | 9, _, HR =>
        go_wp2_with fail
        · go_round
          case rel => exact ⟨k + 1, 10, by omega, by omega, by go_num, rfl, by show _ = _; rw [HR.out, drop_cons s k hlt, arun_some _ _ _ _ (wy_9_0 _ ‹_›)]⟩
          case measure => simp [intOf]; omega
        · go_ret
          exact ⟨ret_bool (by rw [HR.out, drop_cons s k hlt, arun_none _ _ _ (wy_9_1 _ ‹_›)]), rfl⟩
      | 10, _, HR =>
        go_wp2_with fail
        · go_round
          case rel => exact ⟨k + 1, 10, by omega, by omega, by go_num, rfl, by show _ = _; rw [HR.out, drop_cons s k hlt, arun_some _ _ _ _ (wy_10_0 _ ‹_›)]⟩
          case measure => simp [intOf]; omega
        · go_round
          case rel => exact ⟨k + 1, 11, by omega, by omega, by go_num, rfl, by show _ = _; rw [HR.out, drop_cons s k hlt, arun_some _ _ _ _ (wy_10_1 _ ‹_› ‹_›)]⟩
          case measure => simp [intOf]; omega
        · go_ret
          exact ⟨ret_bool (by rw [HR.out, drop_cons s k hlt, arun_none _ _ _ (wy_10_2 _ ‹_› ‹_›)]), rfl⟩
      | 11, _, HR =>
        go_wp2_with fail
        · go_round
          case rel => exact ⟨k + 1, 10, by omega, by omega, by go_num, rfl, by show _ = _; rw [HR.out, drop_cons s k hlt, arun_some _ _ _ _ (wy_11_0 _ ‹_›)]⟩
          case measure => simp [intOf]; omega
        · go_ret
          exact ⟨ret_bool (by rw [HR.out, drop_cons s k hlt, arun_none _ _ _ (wy_11_1 _ ‹_›)]), rfl⟩
      | n + 12, h, _ => exact absurd h (by omega)
    · have hd0 := drop_end s k (by omega)
      have HE : Hid (arun 0 s.data.toList = (st == 6 || st == 10)) := by show _ = _; rw [HR.out, hd0]; rfl
      clear hd0
      go_wp2
      · have h7 : (st : Int) = 6 := by assumption
        have h6 : st = 6 := by omega
        go_ret
        exact ⟨ret_bool (by rw [HE.out, h6]; rfl), rfl⟩
      · go_ret
        exact ⟨ret_bool (by rw [HE.out]; exact st_end st), rfl⟩
end Go.Proofs.Qxb6000618a
