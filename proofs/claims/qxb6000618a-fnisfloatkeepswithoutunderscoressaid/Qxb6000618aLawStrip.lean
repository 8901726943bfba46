/-
  THE WALK of the law FnIsFloatKeepsWithoutUnderscores.
-/
import Derived.Test.Qxb6000618aStrip
import Derived.Test.Qxb6000618aPlainStrip
namespace Go.Proofs.Qxb6000618a
open Go.RowKit Plain

theorem strip_len (s : ByteArray) : (⟨(s.data.toList.filter ne95).toArray⟩ : ByteArray).size ≤ s.size := by
  have h := List.length_filter_le ne95 s.data.toList
  rw [len_data] at h
  exact h

theorem strip_law (s : ByteArray) (h : fl s.data.toList = true) : fl (⟨(s.data.toList.filter ne95).toArray⟩ : ByteArray).data.toList = true := fl_strip _ h

theorem stripWalk (s : ByteArray) (hs : s.size ≤ maxLen) (w : World) :
    Calls Try.prog 7 #[.string s] w fun e w' => e = .returned (.bool true) ∧ Below w.heap.size w w' := by
  unfold maxLen at hs
  by_cases hz : s.size ≤ 1048576
  · have hz' : decide (s.size ≤ 1048576) = true := by simp [hz]
    by_cases hf : fl s.data.toList = true
    · go_enter Try.func7, Try.ntmps7
      go_wp2_with (first | (go_at_call 18; refine (bytes18 _ _ (by unfold maxLen; omega)).mono ?_; rintro e w' ⟨rfl, rfl⟩) | (go_at_call 15; refine (zzIsFloat s _ (by omega)).mono ?_; rintro e w' ⟨rfl, rfl⟩) | (go_at_call 19; refine (strip_any _ _ (by omega)).mono ?_; rintro e w1 ⟨rfl, hb⟩))
      refine (zzIsFloat _ _ (Nat.le_trans (strip_len s) (by omega))).mono ?_
      rintro e w' ⟨rfl, rfl⟩
      rw [strip_law s hf]
      go_wp2
      go_ret
      exact ⟨rfl, hb⟩
    · have hf' : fl s.data.toList = false := by simpa using hf
      clear hf
      go_enter Try.func7, Try.ntmps7
      go_wp2_with (first | (go_at_call 18; refine (bytes18 _ _ (by unfold maxLen; omega)).mono ?_; rintro e w' ⟨rfl, rfl⟩) | (go_at_call 15; refine (zzIsFloat s _ (by omega)).mono ?_; rintro e w' ⟨rfl, rfl⟩))
      go_ret
      exact ⟨rfl, Below.refl _ _⟩
  · have hz' : decide (s.size ≤ 1048576) = false := by simp [hz]
    go_enter Try.func7, Try.ntmps7
    go_wp2_with (first | (go_at_call 18; refine (bytes18 _ _ (by unfold maxLen; omega)).mono ?_; rintro e w' ⟨rfl, rfl⟩))
    go_ret
    exact ⟨rfl, Below.refl _ _⟩
end Go.Proofs.Qxb6000618a
