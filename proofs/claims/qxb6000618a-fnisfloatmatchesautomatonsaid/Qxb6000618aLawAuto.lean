/-
  THE WALK of the law FnIsFloatMatchesAutomaton.
-/
import Derived.Test.Qxb6000618aAuto
namespace Go.Proofs.Qxb6000618a
open Go.RowKit Plain

theorem autoWalk (s : ByteArray) (hs : s.size ≤ maxLen) (w : World) :
    Calls Try.prog 5 #[.string s] w fun e w' => e = .returned (.bool true) ∧ w = w' := by
  unfold maxLen at hs
  by_cases hz : s.size ≤ 1048576
  · have hz' : decide (s.size ≤ 1048576) = true := by simp [hz]
    go_enter Try.func5, Try.ntmps5
    go_wp2_with (first | (go_at_call 14; refine (bytes14 _ _ (by unfold maxLen; omega)).mono ?_; rintro e w' ⟨rfl, rfl⟩) | (go_at_call 15; refine (zzIsFloat _ _ (by omega)).mono ?_; rintro e w' ⟨rfl, rfl⟩) | (go_at_call 16; refine (auto_any _ _ (by omega)).mono ?_; rintro e w' ⟨rfl, rfl⟩))
    go_ret
    exact ⟨ret_bool (a := (fl s.data.toList == arun 0 s.data.toList)) (by rw [arun_fl]; simp), rfl⟩
  · have hz' : decide (s.size ≤ 1048576) = false := by simp [hz]
    go_enter Try.func5, Try.ntmps5
    go_wp2_with (first | (go_at_call 14; refine (bytes14 _ _ (by unfold maxLen; omega)).mono ?_; rintro e w' ⟨rfl, rfl⟩))
    go_ret
    exact ⟨rfl, rfl⟩
end Go.Proofs.Qxb6000618a
