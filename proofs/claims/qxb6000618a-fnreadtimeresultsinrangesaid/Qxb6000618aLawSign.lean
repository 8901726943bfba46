/-
  THE WALK of the law FnIsFloatSignDoesNotMatter.
-/
import Derived.Test.Qxb6000618aFloat
namespace Go.Proofs.Qxb6000618a
open Go.RowKit Plain

theorem zzIsFloat (s : ByteArray) (w : World) (hs : s.size ≤ 2000000) : Calls Try.prog 15 #[.string s] w fun e w' => e = .returned (.bool (fl s.data.toList)) ∧ w = w' := by
  go_enter Try.func15, Try.ntmps15
  go_wp2_with (go_at_call 27; refine (isFloat_any _ _ (by omega)).mono ?_; rintro e w' ⟨rfl, rfl⟩)
  go_ret
  exact ⟨rfl, rfl⟩

theorem data_cons (b : UInt8) (s : ByteArray) : ((⟨#[b]⟩ : ByteArray) ++ s).data.toList = b :: s.data.toList := by
  simp [ByteArray.data_append]
theorem size_cons (b : UInt8) (s : ByteArray) : ((⟨#[b]⟩ : ByteArray) ++ s).size = s.size + 1 := by
  have h := congrArg List.length (data_cons b s)
  rw [len_data] at h
  rw [h]; simp
theorem fl_sign (b : UInt8) (l : List UInt8) (hb : isSign b = true) (hl : hd isSign l = false) : fl (b :: l) = fl l := by
  unfold fl unsign
  rw [if_pos (show hd isSign (b :: l) = true from hb), if_neg (by simp [hl])]
  rfl
theorem zzSigned (b : UInt8) (s : ByteArray) (w : World) (hb : isSign b = true) (hs : s.size ≤ 1500000) (hl : hd isSign s.data.toList = false) :
    Calls Try.prog 15 #[.string ((⟨#[b]⟩ : ByteArray) ++ s)] w fun e w' => e = .returned (.bool (fl s.data.toList)) ∧ w = w' := by
  refine (zzIsFloat _ _ (by rw [size_cons]; omega)).mono ?_
  rintro e w' ⟨rfl, rfl⟩
  exact ⟨ret_bool (by rw [data_cons, fl_sign b _ hb hl]), rfl⟩

theorem signWalk (s : ByteArray) (hs : s.size ≤ maxLen) (w : World) :
    Calls Try.prog 6 #[.string s] w fun e w' => e = .returned (.bool true) ∧ w = w' := by
  unfold maxLen at hs
  by_cases hz : s.size ≤ 1048576
  · have hz' : decide (s.size ≤ 1048576) = true := by simp [hz]
    go_enter Try.func6, Try.ntmps6
    go_wp2_with (first | (go_at_call 17; refine (bytes17 _ _ (by unfold maxLen; omega)).mono ?_; rintro e w' ⟨rfl, rfl⟩))
    · go_ret
      exact ⟨rfl, rfl⟩
    · go_ret
      exact ⟨rfl, rfl⟩
    · have hpos : 0 < s.size := by assumption
      have hl : Hid (hd isSign s.data.toList = false) := by
        have h0 := hd_cons s isSign 0 hpos
        have hh : ((s[0].toNat : Int) == 43) = false ∧ ((s[0].toNat : Int) == 45) = false := by assumption
        have h1 : (s[0] == 43) = false := (beq_u8 _ 43).symm.trans hh.1
        have h2 : (s[0] == 45) = false := (beq_u8 _ 45).symm.trans hh.2
        show hd isSign s.data.toList = false
        rw [List.drop_zero] at h0
        rw [h0]; unfold isSign; rw [h1, h2]; rfl
      refine (zzIsFloat _ _ (by omega)).mono ?_
      rintro e w' ⟨rfl, rfl⟩
      go_wp2_with (go_at_call 15; refine (zzSigned _ _ _ (by decide) (by omega) hl.out).mono ?_; rintro e w' ⟨rfl, rfl⟩)
      go_ret
      exact ⟨rfl, rfl⟩
    · have hpos : ¬ 0 < s.size := by assumption
      have hl : Hid (hd isSign s.data.toList = false) := by
        have h0 := hd_end s isSign 0 (by omega)
        rw [List.drop_zero] at h0
        exact h0
      refine (zzIsFloat _ _ (by omega)).mono ?_
      rintro e w' ⟨rfl, rfl⟩
      go_wp2_with (go_at_call 15; refine (zzSigned _ _ _ (by decide) (by omega) hl.out).mono ?_; rintro e w' ⟨rfl, rfl⟩)
      go_ret
      exact ⟨rfl, rfl⟩
  · have hz' : decide (s.size ≤ 1048576) = false := by simp [hz]
    go_enter Try.func6, Try.ntmps6
    go_wp2_with (first | (go_at_call 17; refine (bytes17 _ _ (by unfold maxLen; omega)).mono ?_; rintro e w' ⟨rfl, rfl⟩))
    go_ret
    exact ⟨rfl, rfl⟩
end Go.Proofs.Qxb6000618a
