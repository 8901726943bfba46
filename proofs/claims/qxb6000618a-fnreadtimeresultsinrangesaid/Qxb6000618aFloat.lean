/-
  THE WALK of isFloat.
-/
import Derived.Test.Qxb6000618aWalks
namespace Go.Proofs.Qxb6000618a
open Go.RowKit Plain

theorem hd_cons (s : ByteArray) (p : UInt8 → Bool) (k : Nat) (h : k < s.size) : hd p (s.data.toList.drop k) = p s[k] := by
  rw [drop_cons s k h]; rfl
theorem hd_end (s : ByteArray) (p : UInt8 → Bool) (k : Nat) (h : s.size ≤ k) : hd p (s.data.toList.drop k) = false := by
  rw [drop_end s k h]; rfl
theorem hd_or (p q : UInt8 → Bool) (l : List UInt8) : hd (fun c => p c || q c) l = (hd p l || hd q l) := by
  cases l <;> rfl
theorem hd_isSign (l : List UInt8) : hd isSign l = (hd (fun c => c == 43) l || hd (fun c => c == 45) l) := hd_or _ _ l
theorem hd_pos (p : UInt8 → Bool) (l : List UInt8) (h : hd p l = true) : 1 ≤ l.length := by
  cases l with
  | nil => simp [hd] at h
  | cons c l => simp
theorem fl_signed (l : List UInt8) (h : hd isSign l = true) : fl l = stage1 (l.drop 1) := by unfold fl unsign; rw [if_pos h]; simp
theorem fl_bare (l : List UInt8) (h : hd isSign l = false) : fl l = stage1 (l.drop 0) := by unfold fl unsign; rw [if_neg (by simp [h])]; simp

theorem beqn (c d : UInt8) (h : (c.toNat : Int) = (d.toNat : Int)) : (c == d) = true := by
  simp; exact UInt8.toNat_inj.1 (by omega)
theorem bnen (c d : UInt8) (h : ¬ (c.toNat : Int) = (d.toNat : Int)) : (c == d) = false := by
  simp; intro e; subst e; exact h rfl
theorem beq_u8 (c d : UInt8) : ((c.toNat : Int) == (d.toNat : Int)) = (c == d) := by
  by_cases h : (c.toNat : Int) = (d.toNat : Int)
  · rw [beqn c d h]; simp [h]
  · rw [bnen c d h]; simp [h]

theorem stage1_bad (s : ByteArray) (k m : Nat) (hk : k < s.size) (hm : m ≤ s.size) (hd0 : dd (s.data.toList.drop k) = some (s.data.toList.drop m)) (h1 : (s[k] == 48) = true) (h2 : k + 1 < m) : stage1 (s.data.toList.drop k) = false := by
  unfold stage1
  rw [hd0]
  simp only [hd_cons s _ k hk, h1, Bool.true_and]
  rw [if_pos]
  simp; omega
theorem stage1_good (s : ByteArray) (k m : Nat) (hk : k < s.size) (hm : m ≤ s.size) (hd0 : dd (s.data.toList.drop k) = some (s.data.toList.drop m)) (h1 : (s[k] == 48) = false ∨ ¬ k + 1 < m) : stage1 (s.data.toList.drop k) = stage2 (s.data.toList.drop m) := by
  unfold stage1
  rw [hd0]
  simp only [hd_cons s _ k hk]
  rw [if_neg]
  rcases h1 with h1 | h1
  · simp only [h1]; simp
  · simp; intro _; omega

theorem stage2_none (l : List UInt8) (m : Nat) (h : hd (fun c => c == 46) (l.drop m) = true) (h2 : dd (l.drop (m + 1)) = none) : stage2 (l.drop m) = false := by
  unfold stage2; rw [if_pos h, List.tail_drop, h2]
theorem stage2_some (l r : List UInt8) (m : Nat) (h : hd (fun c => c == 46) (l.drop m) = true) (h2 : dd (l.drop (m + 1)) = some r) : stage2 (l.drop m) = stage3 true r := by
  unfold stage2; rw [if_pos h, List.tail_drop, h2]
theorem stage2_bare (l : List UInt8) (h : hd (fun c => c == 46) l = false) : stage2 l = stage3 false l := by
  unfold stage2; rw [if_neg (by simp [h])]

theorem stage3_bare (s : ByteArray) (n : Nat) (f : Bool) (hn : n ≤ s.size) (h : hd isE (s.data.toList.drop n) = false) : stage3 f (s.data.toList.drop n) = (decide (n = s.size) && (f || false)) := by
  unfold stage3; rw [if_neg (by simp [h])]
  have e : (s.data.toList.drop n).isEmpty = decide (n = s.size) := by
    rw [Bool.eq_iff_iff]; simp; omega
  rw [e]; simp
theorem stage3_none (l : List UInt8) (n m : Nat) (f : Bool) (h : hd isE (l.drop n) = true) (hm : l.drop m = unsign (l.drop (n + 1))) (h2 : dd (l.drop m) = none) : stage3 f (l.drop n) = false := by
  unfold stage3; rw [if_pos h, List.tail_drop, ← hm, h2]
theorem stage3_some (s : ByteArray) (n m k : Nat) (f : Bool) (hk : k ≤ s.size) (h : hd isE (s.data.toList.drop n) = true) (hm : s.data.toList.drop m = unsign (s.data.toList.drop (n + 1))) (h2 : dd (s.data.toList.drop m) = some (s.data.toList.drop k)) : stage3 f (s.data.toList.drop n) = (decide (k = s.size) && (f || true)) := by
  unfold stage3; rw [if_pos h, List.tail_drop, ← hm, h2]
  have e : (s.data.toList.drop k).isEmpty = decide (k = s.size) := by
    rw [Bool.eq_iff_iff]; simp; omega
  simp only [e]; simp

set_option maxRecDepth 4000 in
set_option maxHeartbeats 1000000 in
theorem isFloat_any (s : ByteArray) (w : World) (hs : s.size ≤ 2000000) : Calls Try.prog 27 #[.string s] w fun e w' => e = .returned (.bool (fl s.data.toList)) ∧ w = w' := by
  have hs' : Hid (s.size ≤ maxLen) := Nat.le_trans hs (by unfold maxLen; omega)
  go_enter Try.func27, Try.ntmps27
  go_upto_region 2 with fail
  go_cut [12] from 13 (fun s12 wx => s12 = .bool (hd isSign s.data.toList) ∧ w = wx)
  case first =>
    go_wp2_with (go_at_call 30; refine (hasPrefix1 _ _ _ hs'.out).mono ?_; rintro e w' ⟨rfl, rfl⟩)
    · have hp : hd (fun c => c == 43) s.data.toList = true := by assumption
      go_meet
      exact ⟨by rw [hd_isSign, hp]; rfl, rfl⟩
    · have hp : hd (fun c => c == 43) s.data.toList = false := by simpa using ‹¬ hd (fun c => c == 43) s.data.toList = true›
      go_meet
      exact ⟨by rw [hd_isSign, hp]; rfl, rfl⟩
  case rest =>
  obtain ⟨rfl, rfl⟩ := hcut
  go_upto_if 12 with fail
  go_cut [3] from 7 (fun s3 wx => ∃ k : Nat, k ≤ s.size ∧ s3 = .int .i64 k ∧ Hid (fl s.data.toList = stage1 (s.data.toList.drop k)) ∧ w = wx)
  case first =>
    go_wp2_with fail
    · have h : hd isSign s.data.toList = true := by assumption
      go_meet
      exact ⟨1, by have := hd_pos _ _ h; simpa using this, rfl, fl_signed _ h, rfl⟩
    · have h' : hd isSign s.data.toList = false := by assumption
      go_meet
      exact ⟨0, by omega, rfl, fl_bare _ h', rfl⟩
  case rest =>
  obtain ⟨k, hk, rfl, HF, rfl⟩ := hcut
  rcases ddI_cases s.data.toList k with ⟨d0, d1⟩ | ⟨m, m0, m1, m2, m3⟩
  · have HD : Hid (dd (s.data.toList.drop k) = none) := d0
    clear d0
    go_wp2_with (go_at_call 26; refine (dd_int _ _ _ hs'.out (by omega) (by omega)).mono ?_; rintro e w' ⟨rfl, rfl⟩)
    go_ret
    exact ⟨ret_bool (by rw [HF.out]; unfold stage1; rw [HD.out]), rfl⟩
  · simp at m1
    have HD : Hid (dd (s.data.toList.drop k) = some (s.data.toList.drop m)) := m3
    clear m3
    have HM : Hid (ddI s.data.toList k = m) := m2
    clear m2
    go_upto_region 5 with (go_at_call 26; refine (dd_int _ _ _ hs'.out (by omega) (by omega)).mono ?_; rintro e w' ⟨rfl, rfl⟩; simp only [Int.toNat_natCast, HM.out])
    clear HM
    have h3 := hd_cons s (fun c => c == 48) k (by omega)
    have HH : Hid (hd (fun c => c == 48) (s.data.toList.drop k) = (s[k] == 48)) := h3
    clear h3
    have hk' : k < s.size := by omega
    go_cut [31] from 18 (fun s31 wx => s31 = .bool ((s[k] == 48) && decide (k + 1 < m)) ∧ w = wx)
    case first =>
      go_wp2_with fail
      · go_meet
        have h4 : s[k] == 48 := beqn _ 48 (by assumption)
        exact ⟨by rw [h4, Bool.true_and]; exact congrArg Value.bool (decide_eq_decide.2 (by omega)), rfl⟩
      · go_meet
        have h4 : (s[k] == 48) = false := bnen _ 48 (by assumption)
        exact ⟨by rw [h4]; simp, rfl⟩
    case rest =>
    obtain ⟨rfl, rfl⟩ := hcut
    go_upto_if 31 with fail
    go_cut [] from 7 (fun wx => Hid (fl s.data.toList = stage2 (s.data.toList.drop m)) ∧ w = wx)
    case first =>
      go_wp2_with fail
      · have hb : (s[k] == 48) = true ∧ k + 1 < m := by assumption
        go_ret
        exact ⟨ret_bool (by rw [HF.out]; exact (stage1_bad s k m hk' m1 HD.out hb.1 hb.2).symm), rfl⟩
      · have hb : (s[k] == 48) = false ∨ ¬k + 1 < m := by assumption
        go_meet
        exact ⟨HF.out.trans (stage1_good s k m hk' m1 HD.out hb), rfl⟩
    case rest =>
    obtain ⟨HF2, rfl⟩ := hcut
    clear HF HD HH
    go_upto_region 8 with fail
    go_cut [5] from 7 (fun s5 wx => s5 = .bool (hd (fun c => c == 46) (s.data.toList.drop m)) ∧ w = wx)
    case first =>
      by_cases hm : m < s.size
      · have H4 : Hid (hd (fun c => c == 46) (s.data.toList.drop m) = (s[m] == 46)) := hd_cons s _ m hm
        go_wp2_with fail
        go_meet
        exact ⟨by rw [H4.out]; exact congrArg Value.bool (beq_u8 _ 46), rfl⟩
      · have H4 : Hid (hd (fun c => c == 46) (s.data.toList.drop m) = false) := hd_end s _ m (by omega)
        go_wp2_with fail
        go_meet
        exact ⟨by rw [H4.out], rfl⟩
    case rest =>
    obtain ⟨rfl, rfl⟩ := hcut
    go_upto_if 43 with fail
    go_cut [3, 5] from 7 (fun s3 s5 wx => ∃ (n : Nat) (f : Bool), n ≤ s.size ∧ s3 = .int .i64 n ∧ s5 = .bool f ∧ Hid (fl s.data.toList = stage3 f (s.data.toList.drop n)) ∧ w = wx)
    case first =>
      go_wp2_with fail
      · have hf : hd (fun c => c == 46) (s.data.toList.drop m) = true := by assumption
        have hm : m < s.size := by have := hd_pos _ _ hf; simp at this; omega
        refine (dd_int _ _ _ hs'.out (by omega) (by omega)).mono ?_
        rintro e w' ⟨rfl, rfl⟩
        have eN : ((m : Int) + 1).toNat = m + 1 := by omega
        rw [eN]
        rcases ddI_cases s.data.toList (m + 1) with ⟨d0, d1⟩ | ⟨n, n0, n1, n2, n3⟩
        · rw [d1]
          have HD : Hid (dd (s.data.toList.drop (m + 1)) = none) := d0
          clear d0 d1
          go_wp2_with fail
          go_ret
          exact ⟨ret_bool (by rw [HF2.out]; exact (stage2_none _ _ hf HD.out).symm), rfl⟩
        · rw [n2]
          simp at n1
          have HD : Hid (dd (s.data.toList.drop (m + 1)) = some (s.data.toList.drop n)) := n3
          clear n3 n2
          go_wp2_with fail
          go_meet
          exact ⟨n, true, n1, rfl, rfl, HF2.out.trans (stage2_some _ _ _ hf HD.out), rfl⟩
      · have hf : hd (fun c => c == 46) (s.data.toList.drop m) = false := by assumption
        go_meet
        exact ⟨m, false, m1, rfl, by rw [hf], HF2.out.trans (stage2_bare _ hf), rfl⟩
    case rest =>
    obtain ⟨n, f, n1, rfl, rfl, HF3, rfl⟩ := hcut
    clear HF2
    go_upto_region 13 with fail
    go_cut [6] from 7 (fun s6 wx => s6 = .bool (hd isE (s.data.toList.drop n)) ∧ w = wx)
    case first =>
      by_cases hm : n < s.size
      · have H4 : Hid (hd isE (s.data.toList.drop n) = ((s[n] == 101) || (s[n] == 69))) := hd_cons s _ n hm
        go_wp2_with fail
        · go_meet
          have h5 : (s[n] == 101) = true := beqn _ 101 (by assumption)
          exact ⟨by rw [H4.out, h5]; rfl, rfl⟩
        · go_meet
          have e1 : ((s[n].toNat : Int) == 101) = (s[n] == 101) := beq_u8 _ 101
          have e2 : ((s[n].toNat : Int) == 69) = (s[n] == 69) := beq_u8 _ 69
          exact ⟨by rw [H4.out, ← e1, ← e2], rfl⟩
      · have H4 : Hid (hd isE (s.data.toList.drop n) = false) := hd_end s _ n (by omega)
        go_wp2_with fail
        go_meet
        exact ⟨by rw [H4.out], rfl⟩
    case rest =>
    obtain ⟨rfl, rfl⟩ := hcut
    go_upto_if 66 with fail
    go_cut [3, 6] from 7 (fun s3 s6 wx => ∃ (m : Nat) (x : Bool), m ≤ s.size ∧ s3 = .int .i64 m ∧ s6 = .bool x ∧ Hid (fl s.data.toList = (decide (m = s.size) && (f || x))) ∧ w = wx)
    case first =>
      go_upto_region 16 with fail
      · have hf : hd isE (s.data.toList.drop n) = true := by assumption
        have hm : n < s.size := by have := hd_pos _ _ hf; simp at this; omega
        have Hf : Hid (hd isE (s.data.toList.drop n) = true) := hf
        go_cut [6, 84] from 7 (fun s6 s84 wx => s6 = .bool true ∧ s84 = .bool (hd isSign (s.data.toList.drop (n + 1))) ∧ w = wx)
        case first =>
          by_cases hm2 : n + 1 < s.size
          · have H4 : Hid (hd isSign (s.data.toList.drop (n + 1)) = ((s[n + 1] == 43) || (s[n + 1] == 45))) := hd_cons s _ (n + 1) hm2
            go_wp2_with fail
            · go_meet
              have h5 : (s[n + 1] == 43) = true := beqn _ 43 (by assumption)
              exact ⟨by first | rfl | rw [Hf.out], by rw [H4.out, h5]; rfl, rfl⟩
            · go_meet
              have e1 : ((s[n + 1].toNat : Int) == 43) = (s[n + 1] == 43) := beq_u8 _ 43
              have e2 : ((s[n + 1].toNat : Int) == 45) = (s[n + 1] == 45) := beq_u8 _ 45
              exact ⟨by first | rfl | rw [Hf.out], by rw [H4.out, ← e1, ← e2], rfl⟩
          · have H4 : Hid (hd isSign (s.data.toList.drop (n + 1)) = false) := hd_end s _ (n + 1) (by omega)
            go_wp2_with fail
            go_meet
            exact ⟨by first | rfl | rw [Hf.out], by rw [H4.out], rfl⟩
        case rest =>
        obtain ⟨rfl, rfl, rfl⟩ := hcut
        go_upto_if 84 with fail
        go_cut [3, 6] from 7 (fun s3 s6 wx => ∃ q : Nat, q ≤ s.size ∧ s3 = .int .i64 q ∧ s6 = .bool true ∧ Hid (s.data.toList.drop q = unsign (s.data.toList.drop (n + 1))) ∧ w = wx)
        case first =>
          go_wp2_with fail
          · have hg : hd isSign (s.data.toList.drop (n + 1)) = true := by assumption
            have hq : n + 1 < s.size := by have := hd_pos _ _ hg; simp at this; omega
            go_meet
            exact ⟨n + 2, by omega, by go_num, by first | rfl | rw [Hf.out], by show _ = _; unfold unsign; rw [if_pos hg, List.tail_drop], rfl⟩
          · have hg : hd isSign (s.data.toList.drop (n + 1)) = false := by assumption
            go_meet
            exact ⟨n + 1, by omega, by go_num, by first | rfl | rw [Hf.out], by show _ = _; unfold unsign; rw [if_neg (by simp [hg])], rfl⟩
        case rest =>
        obtain ⟨q, q1, rfl, rfl, HQ, rfl⟩ := hcut
        go_wp2_with fail
        refine (dd_int _ _ _ hs'.out (by omega) (by omega)).mono ?_
        rintro e w' ⟨rfl, rfl⟩
        rw [Int.toNat_natCast]
        rcases ddI_cases s.data.toList q with ⟨d0, d1⟩ | ⟨z, z0, z1, z2, z3⟩
        · rw [d1]
          have HD : Hid (dd (s.data.toList.drop q) = none) := d0
          clear d0 d1
          go_wp2_with fail
          go_ret
          exact ⟨ret_bool (by rw [HF3.out]; exact (stage3_none _ _ _ _ Hf.out HQ.out HD.out).symm), rfl⟩
        · rw [z2]
          simp at z1
          have HD : Hid (dd (s.data.toList.drop q) = some (s.data.toList.drop z)) := z3
          clear z3 z2
          go_wp2_with fail
          go_meet
          exact ⟨z, true, z1, rfl, by first | rfl | rw [Hf.out], HF3.out.trans (stage3_some s n q z f z1 Hf.out HQ.out HD.out), rfl⟩
      · have hf : hd isE (s.data.toList.drop n) = false := by assumption
        go_meet
        exact ⟨n, false, n1, rfl, by simp [hf], HF3.out.trans (stage3_bare s n f n1 hf), rfl⟩
    case rest =>
    obtain ⟨m, x, m1, rfl, rfl, HF4, rfl⟩ := hcut
    go_wp2_with fail
    · go_ret
      exact ⟨ret_bool (by rw [HF4.out]; simp [*]; omega), rfl⟩
    · go_ret
      have h1 : m = s.size := by omega
      have h2 : f = false := by simpa using ‹¬ f = true›
      exact ⟨ret_bool (by rw [HF4.out]; simp [h1, h2]), rfl⟩
    · go_ret
      have h1 : ¬ m = s.size := by omega
      exact ⟨ret_bool (by rw [HF4.out]; simp [h1]), rfl⟩
end Go.Proofs.Qxb6000618a
