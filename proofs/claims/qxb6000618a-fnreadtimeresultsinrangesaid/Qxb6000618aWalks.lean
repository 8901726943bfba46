/-
  THE WALKS of the float family's callees.
-/
import Derived.Test.Qxb6000618aRows
import Derived.Test.Qxb6000618aPlain
import Derived.WalkKit
import Derived.WalkSpells
import Derived.RowKit3
import Derived.Lib.Strings
import Derived.Deep.DeepCutAuto
namespace Go.Proofs.Qxb6000618a
open Go.RowKit Plain

theorem ret_bool {a b : Bool} (h : a = b) : Ending.returned (.bool a) = .returned (.bool b) := by rw [h]
theorem ret_int {k : IntKind} {a b : Int} (h : a = b) : Ending.returned (.int k a) = .returned (.int k b) := by rw [h]

set_option maxHeartbeats 400000 in
theorem isDigit_any (c : UInt8) (w : World) : Calls Try.prog 29 #[.int .u8 (c.toNat : Int)] w fun e w' => e = .returned (.bool (dig c)) ∧ w = w' := by
  go_enter Try.func29, Try.ntmps29
  go_wp2
  all_goals
    go_ret
    exact ⟨ret_bool (by unfold dig; rw [Bool.eq_iff_iff]; simp; omega), rfl⟩

theorem bytes17 (s : ByteArray) (w : World) (hs : s.size ≤ maxLen) : Calls Try.prog 17 #[.string s] w fun e w' => e = .returned (.bool (decide (s.size ≤ 1048576))) ∧ w = w' := by
  unfold maxLen at hs
  by_cases h : (1048576 : Int) < (s.size : Int)
  · go_enter Try.func17, Try.ntmps17
    go_wp2
    go_ret
    exact ⟨ret_bool (by simp; omega), rfl⟩
  · go_enter Try.func17, Try.ntmps17
    go_wp2
    go_ret
    exact ⟨ret_bool (by simp; omega), rfl⟩

theorem bytes18 (s : ByteArray) (w : World) (hs : s.size ≤ maxLen) : Calls Try.prog 18 #[.string s] w fun e w' => e = .returned (.bool (decide (s.size ≤ 1048576))) ∧ w = w' := by
  unfold maxLen at hs
  by_cases h : (1048576 : Int) < (s.size : Int)
  · go_enter Try.func18, Try.ntmps18
    go_wp2
    go_ret
    exact ⟨ret_bool (by simp; omega), rfl⟩
  · go_enter Try.func18, Try.ntmps18
    go_wp2
    go_ret
    exact ⟨ret_bool (by simp; omega), rfl⟩

theorem bytes14 (s : ByteArray) (w : World) (hs : s.size ≤ maxLen) : Calls Try.prog 14 #[.string s] w fun e w' => e = .returned (.bool (decide (s.size ≤ 1048576))) ∧ w = w' := by
  unfold maxLen at hs
  by_cases h : (1048576 : Int) < (s.size : Int)
  · go_enter Try.func14, Try.ntmps14
    go_wp2
    go_ret
    exact ⟨ret_bool (by simp; omega), rfl⟩
  · go_enter Try.func14, Try.ntmps14
    go_wp2
    go_ret
    exact ⟨ret_bool (by simp; omega), rfl⟩

theorem bytes25 (s : ByteArray) (w : World) (hs : s.size ≤ maxLen) : Calls Try.prog 25 #[.string s] w fun e w' => e = .returned (.bool (decide (s.size ≤ 1048576))) ∧ w = w' := by
  unfold maxLen at hs
  by_cases h : (1048576 : Int) < (s.size : Int)
  · go_enter Try.func25, Try.ntmps25
    go_wp2
    go_ret
    exact ⟨ret_bool (by simp; omega), rfl⟩
  · go_enter Try.func25, Try.ntmps25
    go_wp2
    go_ret
    exact ⟨ret_bool (by simp; omega), rfl⟩

theorem drop_cons (s : ByteArray) (k : Nat) (h : k < s.size) : s.data.toList.drop k = s[k] :: s.data.toList.drop (k + 1) := by
  rw [List.drop_eq_getElem_cons (by simpa using h)]; rfl
theorem drop_end (s : ByteArray) (k : Nat) (h : s.size ≤ k) : s.data.toList.drop k = [] := List.drop_of_length_le (by simpa using h)
theorem len_data (s : ByteArray) : s.data.toList.length = s.size := by simp

/-- strings.HasPrefix at a prefix of one byte. -/
theorem hasPrefix1 (s : ByteArray) (b : UInt8) (w : World) (hs : s.size ≤ maxLen) : Calls Try.prog 30 #[.string s, .string ⟨#[b]⟩] w fun e w' => e = .returned (.bool (hd (fun c => c == b) s.data.toList)) ∧ w = w' := by
  unfold maxLen at hs
  by_cases h : (1 : Int) ≤ (s.size : Int)
  · go_enter Try.func30, Try.ntmps30
    go_wp2
    go_ret
    refine ⟨?_, rfl⟩
    refine (ret_bool (a := (s.extract 0 1).toList == [b]) ?_)
    rw [Lib.extract_toList, drop_cons s 0 (by omega)]
    have e : s.data.toList = s[0] :: s.data.toList.drop 1 := by rw [← drop_cons s 0 (by omega)]; rfl
    rw [e]
    simp [hd]
  · go_enter Try.func30, Try.ntmps30
    go_wp2
    go_ret
    have e : s.data.toList = [] := drop_end s 0 (by omega)
    exact ⟨ret_bool (by rw [e]; rfl), rfl⟩

set_option maxHeartbeats 400000 in
theorem dd_any (s : ByteArray) (i : Nat) (w : World) (hs : s.size ≤ maxLen) (hi : i ≤ s.size) : Calls Try.prog 26 #[.string s, .int .i64 i] w fun e w' => e = .returned (.int .i64 (ddI s.data.toList i)) ∧ w = w' := by
  unfold maxLen at hs
  by_cases he : i = s.size
  · have h1 : ((i : Int) == (s.size : Int)) = true := by simp [he]
    go_enter Try.func26, Try.ntmps26
    go_wp2
    go_ret
    exact ⟨ret_int (by rw [ddI_none]; rw [drop_end s i (by omega)]; rfl), rfl⟩
  · have h1 : ((i : Int) == (s.size : Int)) = false := by simp; omega
    have hlt : (i : Int) < (s.size : Int) := by omega
    have hlt' : i < s.size := by omega
    by_cases hd0 : dig s[i] = true
    · have HE : Hid (ddI s.data.toList i = ddlI s.data.toList (i + 1)) := by
        show ddI s.data.toList i = ddlI s.data.toList (i + 1)
        unfold ddI ddlI; rw [drop_cons s i hlt']; simp [dd, hd0]
      go_enter Try.func26, Try.ntmps26
      go_wp2_with (go_at_call 29; refine (isDigit_any _ _).mono ?_; rintro e w' ⟨rfl, rfl⟩)
      go_loop [1] (fun i' => ∃ k : Nat, k ≤ s.size ∧ i' = .int .i64 k ∧ Hid (ddlI s.data.toList (i + 1) = ddlI s.data.toList k)) (fun i' => s.size - (intOf i').toNat)
      case atStart => exact ⟨i + 1, by omega, by go_num, rfl⟩
      case round =>
        obtain ⟨k, hk, rfl, HK⟩ := hrel
        by_cases hlt : k < s.size
        · go_wp2_with (go_at_call 29; refine (isDigit_any _ _).mono ?_; rintro e w' ⟨rfl, rfl⟩)
          · go_round
            case rel => exact ⟨k + 1, by omega, by go_num, HK.out.trans (ddlI_same _ _ _ (by rw [drop_cons s k hlt]; exact ddl_dig _ _ ‹_›))⟩
            case measure => simp [intOf]; omega
          · have hk1 : k + 1 < s.size := by omega
            go_round
            case rel => exact ⟨k + 1, by omega, by go_num, HK.out.trans (ddlI_same _ _ _ (by rw [drop_cons s k hlt]; exact ddl_us _ _ (by omega) (by rw [drop_cons s (k + 1) hk1]; assumption)))⟩
            case measure => simp [intOf]; omega
          · have hk1 : k + 1 < s.size := by omega
            go_ret
            exact ⟨ret_int (by rw [HE.out, HK.out, ddlI_none]; rw [drop_cons s k hlt]; exact ddl_us_no _ _ (by omega) (by rw [drop_cons s (k + 1) hk1]; assumption)), rfl⟩
          · go_ret
            exact ⟨ret_int (by rw [HE.out, HK.out, ddlI_none]; rw [drop_cons s k hlt]; exact ddl_us_no _ _ (by omega) (by rw [drop_end s (k + 1) (by omega)]; rfl)), rfl⟩
          · go_ret
            exact ⟨ret_int (by rw [HE.out, HK.out, ddlI_some _ _ (s.data.toList.drop k) (by rw [drop_cons s k hlt]; exact ddl_other _ _ ‹_› (by omega))]; simp; omega), rfl⟩
        · go_wp2
          go_ret
          exact ⟨ret_int (by rw [HE.out, HK.out, ddlI_some _ _ [] (by rw [drop_end s k (by omega)]; rfl)]; simp; omega), rfl⟩
    · have hd1 : dig s[i] = false := by simpa using hd0
      clear hd0
      go_enter Try.func26, Try.ntmps26
      go_wp2_with (go_at_call 29; refine (isDigit_any _ _).mono ?_; rintro e w' ⟨rfl, rfl⟩)
      go_ret
      exact ⟨ret_int (by rw [ddI_none]; rw [drop_cons s i hlt']; simp [dd, hd1]), rfl⟩

theorem dd_int (s : ByteArray) (n : Int) (w : World) (hs : s.size ≤ maxLen) (h0 : 0 ≤ n) (h1 : n ≤ s.size) : Calls Try.prog 26 #[.string s, .int .i64 n] w fun e w' => e = .returned (.int .i64 (ddI s.data.toList n.toNat)) ∧ w = w' := by
  obtain ⟨i, rfl⟩ := Int.eq_ofNat_of_zero_le h0
  exact dd_any s i w hs (by omega)
end Go.Proofs.Qxb6000618a
