/-
  THE WALK of the law FnReadTimeResultsInRange.
-/
import Derived.Test.Qxb6000618aReadTime
import Derived.Test.Qxb6000618aShelf
import Derived.Deep.RegionWith
namespace Go.Proofs.Qxb6000618a
open Go.RowKit Plain

theorem repeatL_one (b : UInt8) : ∀ n, Lib.repeatL [b] n = List.replicate n b
  | 0 => rfl
  | n + 1 => by
    show [b] ++ Lib.repeatL [b] n = _
    rw [repeatL_one b n]; rfl

theorem rep_holds : Rep := by
  intro n w h0 h9
  obtain ⟨n, rfl⟩ := Int.eq_ofNat_of_zero_le h0
  have h := Try.strings_Repeat ⟨#[48]⟩ n w (by omega) (by show 1 * n ≤ _; omega)
  refine h.mono ?_
  rintro e w' ⟨rfl, hb⟩
  refine ⟨?_, hb⟩
  have e1 : Lib.repeatL (⟨#[48]⟩ : ByteArray).data.toList n = List.replicate n 48 := repeatL_one 48 n
  rw [e1]; rfl

theorem rdI_two (s : ByteArray) (k : Nat) (h : k + 2 ≤ s.size) : rdI s k 2 = rda 0 [s[k], s[k + 1]] := by
  unfold rdI
  rw [if_neg (by omega), drop_cons s k (by omega), drop_cons s (k + 1) (by omega)]
  rfl

theorem head5 (s : ByteArray) (h m : Int) (h5 : 5 ≤ s.size) (eh : h = rdI s 0 2) (em : m = rdI s 3 2) (h0 : 0 ≤ h) (m0 : 0 ≤ m) (hc : s[2] = 58) :
    ((s.extract 0 5).toList == ((⟨(two h).toArray⟩ : ByteArray) ++ ⟨#[58]⟩ ++ ⟨(two m).toArray⟩).toList) = true := by
  rw [rdI_two s 0 (by omega)] at eh
  rw [rdI_two s 3 (by omega)] at em
  obtain ⟨ha, hb, e1⟩ := rda_two _ _ (by rw [← eh]; exact h0)
  obtain ⟨hd0, he, e2⟩ := rda_two _ _ (by rw [← em]; exact m0)
  have t1 : two h = [s[0], s[0 + 1]] := by rw [eh, e1]; exact two_back _ _ ha hb
  have t2 : two m = [s[3], s[3 + 1]] := by rw [em, e2]; exact two_back _ _ hd0 he
  have el : (s.extract 0 5).toList = [s[0], s[0 + 1], 58, s[3], s[3 + 1]] := by
    rw [Lib.extract_toList, drop_cons s 0 (by omega), drop_cons s (0 + 1) (by omega), drop_cons s (0 + 1 + 1) (by omega), drop_cons s (0 + 1 + 1 + 1) (by omega), drop_cons s (0 + 1 + 1 + 1 + 1) (by omega)]
    have hc' : s[0 + 1 + 1] = 58 := hc
    rw [hc']
    rfl
  have er : ((⟨(two h).toArray⟩ : ByteArray) ++ ⟨#[58]⟩ ++ ⟨(two m).toArray⟩).toList = [s[0], s[0 + 1], 58, s[3], s[3 + 1]] := by
    rw [Lib.toList_data, ByteArray.data_append, ByteArray.data_append, t1, t2]
    simp
  rw [el, er]
  simp

set_option maxRecDepth 4000 in
set_option maxHeartbeats 1000000 in
theorem zzReadTime (s : ByteArray) (w : World) (hs : s.size ≤ 2000000) : Calls Try.prog 24 #[.string s] w fun e w' => TimeEnd s e ∧ Below w.heap.size w w' := by
  go_enter Try.func24, Try.ntmps24
  go_wp2_with fail
  refine (readTime_any rep_holds _ _ hs).mono ?_
  rintro e w1 ⟨he, hb⟩
  rcases he with rfl | ⟨h, m, sc, ns, i, rfl, rest⟩
  · unfold refused
    go_wp2
    exact bodyPost_ret (v := refused) (by simp [results, Try.results24, go_sem, refused]) rfl ⟨.inl rfl, hb⟩
  · have HR : Hid (InRange h m sc ∧ 0 ≤ ns ∧ ns ≤ 999999999 ∧ 5 ≤ i ∧ i ≤ s.size ∧ (∃ h2 : 2 < s.size, s[2] = 58) ∧ h = rdI s 0 2 ∧ m = rdI s 3 2) := rest
    clear rest
    unfold taken
    go_wp2
    exact bodyPost_ret (v := taken h m sc ns (s.extract i s.size)) (by simp [results, Try.results24, go_sem, taken]) rfl ⟨.inr ⟨h, m, sc, ns, i, rfl, HR.out⟩, hb⟩

set_option maxRecDepth 4000 in
set_option maxHeartbeats 1000000 in
theorem timeWalk (s : ByteArray) (hs : s.size ≤ maxLen) (w : World) :
    Calls Try.prog 9 #[.string s] w fun e w' => e = .returned (.bool true) ∧ Below w.heap.size w w' := by
  unfold maxLen at hs
  by_cases hz : s.size ≤ 1048576
  · have hz' : decide (s.size ≤ 1048576) = true := by simp [hz]
    go_enter Try.func9, Try.ntmps9
    go_wp2_with (first | (go_at_call 25; refine (bytes25 _ _ (by unfold maxLen; omega)).mono ?_; rintro e w' ⟨rfl, rfl⟩))
    refine (zzReadTime _ _ (by omega)).mono ?_
    rintro e w1 ⟨he, hb⟩
    rcases he with rfl | ⟨h, m, sc, ns, i, rfl, ⟨r1, r2, r3, r4, r5, r6⟩, n0, n1, i0, i1, ⟨h2, hc⟩, eh, em⟩
    · unfold refused
      go_wp2
      go_ret
      exact ⟨rfl, hb⟩
    · have EH : Hid (h = rdI s 0 2) := eh
      have EM : Hid (m = rdI s 3 2) := em
      have EC : Hid (s[2] = 58) := hc
      clear eh em hc
      unfold taken
      have h55 : (5 : Int) ≤ (s.size : Int) := by omega
      have h56 : 5 ≤ s.size := by omega
      go_upto_region 12 with fail
      go_cut [88] from 9 (fun s88 wx => s88 = .bool false ∧ Below w.heap.size w wx)
      case first =>
        go_region_with (go_at_call 21; refine (two_any _ (by omega) (by omega) _).mono ?_; rintro e w' ⟨rfl, rfl⟩)
        all_goals go_wp2_with fail
        all_goals go_meet
        all_goals exact ⟨by rw [head5 s h m h56 EH.out EM.out r1 r3 EC.out]; rfl, ((hb.alloc hb.size _).alloc (by have := hb.size; simp; omega) _).drew⟩
      case rest =>
      obtain ⟨rfl, hb2⟩ := hcut
      go_wp2
      go_ret
      exact ⟨ret_bool (a := (s.extract (s.size - (s.size - i)) s.size).toList == (s.extract i s.size).toList) (by rw [show s.size - (s.size - i) = i from by omega]; simp), hb2⟩
  · have hz' : decide (s.size ≤ 1048576) = false := by simp [hz]
    go_enter Try.func9, Try.ntmps9
    go_wp2_with (first | (go_at_call 25; refine (bytes25 _ _ (by unfold maxLen; omega)).mono ?_; rintro e w' ⟨rfl, rfl⟩))
    go_ret
    exact ⟨rfl, Below.refl _ _⟩
end Go.Proofs.Qxb6000618a
