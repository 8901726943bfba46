/-
  THE WALK of readTime.
-/
import Derived.Test.Qxb6000618aTime
import Derived.Deep.QuietTactic
import Derived.BigQuiet
import Derived.WalkSmall
namespace Go.Proofs.Qxb6000618a
open Go.RowKit Plain

def Rep : Prop := ∀ (n : Int) (w : World), 0 ≤ n → n ≤ 9 → Calls Try.prog 32 #[.string ⟨#[48]⟩, .int .i64 n] w fun e w' => e = .returned (.string ⟨(List.replicate n.toNat 48).toArray⟩) ∧ Below w.heap.size w w'

def refused : Value := .tuple #[.int .i64 0, .int .i64 0, .int .i64 0, .int .i64 0, .string ⟨#[]⟩, .bool false]
def taken (h m sc ns : Int) (rest : ByteArray) : Value := .tuple #[.int .i64 h, .int .i64 m, .int .i64 sc, .int .i64 ns, .string rest, .bool true]
def InRange (h m sc : Int) : Prop := 0 ≤ h ∧ h ≤ 23 ∧ 0 ≤ m ∧ m ≤ 59 ∧ 0 ≤ sc ∧ sc ≤ 59
def badB (h m sc : Int) : Bool := decide (h < 0 ∨ 23 < h ∨ m < 0 ∨ 59 < m ∨ sc < 0 ∨ 59 < sc)
theorem inRange_of (h m sc : Int) (hb : badB h m sc = false) : InRange h m sc := by
  unfold badB at hb
  have h1 := of_decide_eq_false hb
  unfold InRange
  omega

/-- What readTime answers. -/
def TimeEnd (s : ByteArray) (e : Ending) : Prop :=
  e = .returned refused ∨ ∃ (h m sc ns : Int) (i : Nat), e = .returned (taken h m sc ns (s.extract i s.size)) ∧ InRange h m sc ∧ 0 ≤ ns ∧ ns ≤ 999999999 ∧ 5 ≤ i ∧ i ≤ s.size ∧ (∃ h2 : 2 < s.size, s[2] = 58) ∧ h = rdI s 0 2 ∧ m = rdI s 3 2

theorem frac_step (s : ByteArray) (j : Nat) (j0 : 9 ≤ j) (hj : j < s.size) (hd0 : dig s[j] = true) (h : ∀ c ∈ (s.data.toList.drop 9).take (j - 9), dig c = true) : ∀ c ∈ (s.data.toList.drop 9).take (j + 1 - 9), dig c = true := by
  intro c hc
  have e : (s.data.toList.drop 9).take (j + 1 - 9) = (s.data.toList.drop 9).take (j - 9) ++ [s[j]] := by
    have e1 : j + 1 - 9 = (j - 9) + 1 := by omega
    rw [e1, List.take_succ_eq_append_getElem (by simp; omega)]
    congr 2
    simp only [List.getElem_drop]
    have e2 : 9 + (j - 9) = j := by omega
    simp only [e2]
    rfl
  rw [e] at hc
  rcases List.mem_append.1 hc with h1 | h1
  · exact h c h1
  · simp at h1; rw [h1]; exact hd0

theorem frac_val (s : ByteArray) (j d q : Nat) (h9 : 9 ≤ d) (hd0 : d ≤ 18) (hdj : d ≤ j) (hj : j ≤ s.size) (hq : q = 18 - d) (h : ∀ c ∈ (s.data.toList.drop 9).take (j - 9), dig c = true) :
    (s.extract 9 d ++ ⟨Array.replicate q 48⟩ : ByteArray).size = 9 ∧ 0 ≤ rdI (s.extract 9 d ++ ⟨Array.replicate q 48⟩) 0 9 ∧ rdI (s.extract 9 d ++ ⟨Array.replicate q 48⟩) 0 9 ≤ 999999999 := by
  have ed : (s.extract 9 d ++ ⟨Array.replicate q 48⟩ : ByteArray).data.toList = (s.data.toList.drop 9).take (d - 9) ++ List.replicate q 48 := by
    rw [ByteArray.data_append, Array.toList_append, Lib.extract_data]
    simp
  have hz : (s.extract 9 d ++ ⟨Array.replicate q 48⟩ : ByteArray).size = 9 := by
    rw [← len_data, ed]; simp; omega
  have hall : ∀ c ∈ (s.extract 9 d ++ ⟨Array.replicate q 48⟩ : ByteArray).data.toList, dig c = true := by
    intro c hc
    rw [ed] at hc
    rcases List.mem_append.1 hc with h1 | h1
    · refine h c ?_
      have e : (s.data.toList.drop 9).take (d - 9) = ((s.data.toList.drop 9).take (j - 9)).take (d - 9) := by
        rw [List.take_take]; congr 1; omega
      rw [e] at h1
      exact List.mem_of_mem_take h1
    · rw [(List.mem_replicate.1 h1).2]; rfl
  have hb := rda_nine _ (by rw [len_data, hz]) hall
  refine ⟨hz, ?_⟩
  unfold rdI
  rw [if_neg (by rw [hz]; omega), List.drop_zero, List.take_of_length_le (by rw [len_data, hz]; omega)]
  exact hb

theorem frac_call (s : ByteArray) (j d q : Nat) (w : World) (h9 : 9 ≤ d) (hd0 : d ≤ 18) (hdj : d ≤ j) (hj : j ≤ s.size) (hq : q = 18 - d) (h : ∀ c ∈ (s.data.toList.drop 9).take (j - 9), dig c = true) :
    Calls Try.prog 31 #[.string (s.extract 9 d ++ ⟨Array.replicate q 48⟩), .int .i64 0, .int .i64 9] w fun e w' => ∃ ns : Int, e = .returned (.int .i64 ns) ∧ 0 ≤ ns ∧ ns ≤ 999999999 ∧ Below w.heap.size w w' := by
  have hfv := frac_val s j d q h9 hd0 hdj hj hq h
  refine (rd_int _ 0 9 _ (by rw [hfv.1]; omega) (by omega) (by omega) (by omega) (by omega)).mono ?_
  rintro e w5 ⟨rfl, hb5⟩
  exact ⟨_, rfl, hfv.2.1, hfv.2.2, hb5⟩

set_option maxRecDepth 4000 in
set_option maxHeartbeats 2000000 in
theorem readTime_any (hrep : Rep) (s : ByteArray) (w : World) (hs : s.size ≤ 2000000) : Calls Try.prog 28 #[.string s] w fun e w' => TimeEnd s e ∧ Below w.heap.size w w' := by
  have HRep : Hid Rep := hrep
  clear hrep
  by_cases h5 : s.size < 5
  · go_enter Try.func28, Try.ntmps28
    go_wp2
    exact bodyPost_ret (v := refused) (by simp [results, Try.results28, go_sem, refused]) rfl ⟨.inl rfl, Below.refl _ _⟩
  · have h5' : ¬ ((s.size : Int) < 5) := by omega
    have h2 : 2 < s.size := by omega
    by_cases hc : (s[2].toNat : Int) = 58
    · go_enter Try.func28, Try.ntmps28
      go_wp2_with fail
      refine (rd_int _ _ _ _ hs (by omega) (by omega) (by omega) (by omega)).mono ?_
      rintro e w1 ⟨rfl, hb1⟩
      go_wp2_with fail
      refine (rd_int _ _ _ _ hs (by omega) (by omega) (by omega) (by omega)).mono ?_
      rintro e w2 ⟨rfl, hb2⟩
      have hB : Below w.heap.size w w2 := hb1.trans (hb2.mono hb1.size)
      clear hb1 hb2
      obtain ⟨hh, EH⟩ : ∃ x, Hid (x = rdI s 0 2) := ⟨_, rfl⟩
      obtain ⟨mm, EM⟩ : ∃ x, Hid (x = rdI s 3 2) := ⟨_, rfl⟩
      rw [show rdI s (3 : Int).toNat (2 : Int).toNat = mm from EM.out.symm]
      rw [show rdI s 0 2 = hh from EH.out.symm]
      have HC : Hid ((s[2].toNat : Int) = 58) := hc
      clear hc
      go_upto_region 5 with fail
      go_cut [30] from 11 (fun s30 wx => (∃ b : Bool, s30 = .bool b ∧ (b = true → 8 ≤ s.size)) ∧ w2 = wx)
      case first =>
        go_wp2_with fail
        · go_meet
          exact ⟨⟨_, rfl, fun _ => by omega⟩, rfl⟩
        · go_meet
          exact ⟨⟨_, rfl, fun h => by cases h⟩, rfl⟩
      case rest =>
      obtain ⟨⟨b, rfl, hb⟩, rfl⟩ := hcut
      go_upto_if 30 with fail
      go_cut [2, 3, 4, 5, 8] from 11 (fun s2 s3 s4 s5 s8 wx => (∃ (sc ns : Int) (i : Nat), s2 = .int .i64 hh ∧ s3 = .int .i64 mm ∧ s4 = .int .i64 sc ∧ s5 = .int .i64 ns ∧ s8 = .int .i64 i ∧ 0 ≤ ns ∧ ns ≤ 999999999 ∧ 5 ≤ i ∧ i ≤ s.size) ∧ Below w.heap.size w wx)
      case first =>
        go_wp2_with fail
        · have h8 : 8 ≤ s.size := hb (by assumption)
          clear hb
          refine (rd_int _ _ _ _ hs (by omega) (by omega) (by omega) (by omega)).mono ?_
          rintro e w3 ⟨rfl, hb3⟩
          have hB2 : Below w.heap.size w w3 := hB.trans (hb3.mono hB.size)
          clear hb3 hB
          generalize rdI s (6 : Int).toNat (2 : Int).toNat = sc
          go_upto_region 8 with fail
          go_cut [42] from 11 (fun s42 wx => (∃ b : Bool, s42 = .bool b ∧ (b = true → 9 ≤ s.size)) ∧ w3 = wx)
          case first =>
            go_wp2_with fail
            all_goals go_meet
            · exact ⟨⟨_, rfl, fun _ => by omega⟩, rfl⟩
            · exact ⟨⟨_, rfl, fun h => by cases h⟩, rfl⟩
          case rest =>
          obtain ⟨⟨b2, rfl, hb⟩, rfl⟩ := hcut
          go_wp2_with fail
          · have h9 : 9 ≤ s.size := hb (by assumption)
            clear hb
            obtain rfl : b2 = true := by assumption
            obtain rfl : b = true := by assumption
            go_loop [9] (fun sj => ∃ j : Nat, 9 ≤ j ∧ j ≤ s.size ∧ sj = .int .i64 j ∧ Hid (∀ c ∈ (s.data.toList.drop 9).take (j - 9), dig c = true)) (fun sj => s.size - (intOf sj).toNat)
            case atStart => exact ⟨9, by omega, h9, rfl, by show ∀ c ∈ _, _; simp⟩
            case round =>
              obtain ⟨j, j0, j1, rfl, HJ⟩ := hrel
              by_cases hj : j < s.size
              · go_wp2_with (go_at_call 29; refine (isDigit_any _ _).mono ?_; rintro e w' ⟨rfl, rfl⟩)
                · have hdj : dig s[j] = true := by assumption
                  go_round
                  case rel => exact ⟨j + 1, by omega, by omega, by go_num, frac_step s j j0 hj hdj HJ.out⟩
                  case measure => simp [intOf]; omega
                · exact bodyPost_ret (v := refused) (by simp [results, Try.results28, go_sem, refused]) rfl ⟨.inl rfl, hB2⟩
                · refine (HRep.out _ _ (by omega) (by omega)).mono ?_
                  rintro e w4 ⟨rfl, hb4⟩
                  have hB4 : Below w.heap.size w w4 := hB2.trans (hb4.mono hB2.size)
                  clear hb4
                  go_wp2_with fail
                  refine (frac_call s j 18 (9 - (min 18 s.size - 9)) w4 (by omega) (by omega) (by omega) (by omega) (by omega) HJ.out).mono ?_
                  rintro e w5 ⟨ns, rfl, f1, f2, hb5⟩
                  have hB5 : Below w.heap.size w w5 := hB4.trans (hb5.mono hB4.size)
                  clear hb5
                  go_wp2_with fail
                  go_meet
                  exact ⟨⟨sc, ns, j, rfl, rfl, rfl, rfl, rfl, f1, f2, by omega, by omega⟩, hB5⟩
                · refine (HRep.out _ _ (by omega) (by omega)).mono ?_
                  rintro e w4 ⟨rfl, hb4⟩
                  have hB4 : Below w.heap.size w w4 := hB2.trans (hb4.mono hB2.size)
                  clear hb4
                  go_wp2_with fail
                  refine (frac_call s j j (9 - (j - 9)) w4 (by omega) (by omega) (by omega) (by omega) (by omega) HJ.out).mono ?_
                  rintro e w5 ⟨ns, rfl, f1, f2, hb5⟩
                  have hB5 : Below w.heap.size w w5 := hB4.trans (hb5.mono hB4.size)
                  clear hb5
                  go_wp2_with fail
                  go_meet
                  exact ⟨⟨sc, ns, j, rfl, rfl, rfl, rfl, rfl, f1, f2, by omega, by omega⟩, hB5⟩
              · go_wp2_with fail
                · exact bodyPost_ret (v := refused) (by simp [results, Try.results28, go_sem, refused]) rfl ⟨.inl rfl, hB2⟩
                · refine (HRep.out _ _ (by omega) (by omega)).mono ?_
                  rintro e w4 ⟨rfl, hb4⟩
                  have hB4 : Below w.heap.size w w4 := hB2.trans (hb4.mono hB2.size)
                  clear hb4
                  go_wp2_with fail
                  refine (frac_call s j 18 (9 - (min 18 s.size - 9)) w4 (by omega) (by omega) (by omega) (by omega) (by omega) HJ.out).mono ?_
                  rintro e w5 ⟨ns, rfl, f1, f2, hb5⟩
                  have hB5 : Below w.heap.size w w5 := hB4.trans (hb5.mono hB4.size)
                  clear hb5
                  go_wp2_with fail
                  go_meet
                  exact ⟨⟨sc, ns, j, rfl, rfl, rfl, rfl, rfl, f1, f2, by omega, by omega⟩, hB5⟩
                · refine (HRep.out _ _ (by omega) (by omega)).mono ?_
                  rintro e w4 ⟨rfl, hb4⟩
                  have hB4 : Below w.heap.size w w4 := hB2.trans (hb4.mono hB2.size)
                  clear hb4
                  go_wp2_with fail
                  refine (frac_call s j j (9 - (j - 9)) w4 (by omega) (by omega) (by omega) (by omega) (by omega) HJ.out).mono ?_
                  rintro e w5 ⟨ns, rfl, f1, f2, hb5⟩
                  have hB5 : Below w.heap.size w w5 := hB4.trans (hb5.mono hB4.size)
                  clear hb5
                  go_wp2_with fail
                  go_meet
                  exact ⟨⟨sc, ns, j, rfl, rfl, rfl, rfl, rfl, f1, f2, by omega, by omega⟩, hB5⟩
          · go_meet
            exact ⟨⟨sc, 0, 8, rfl, rfl, rfl, rfl, rfl, by omega, by omega, by omega, by omega⟩, hB2⟩
        · go_meet
          exact ⟨⟨0, 0, 5, rfl, rfl, rfl, rfl, rfl, by omega, by omega, by omega, by omega⟩, hB⟩
      case rest =>
      obtain ⟨⟨sc, ns, i, rfl, rfl, rfl, rfl, rfl, n0, n1, i0, i1⟩, hB3⟩ := hcut
      clear hB
      go_upto_region 17 with fail
      go_cut [98] from 11 (fun s98 wx => s98 = .bool (badB hh mm sc) ∧ wc = wx)
      case first =>
        go_wp2_with fail
        · go_meet
          exact ⟨congrArg Value.bool (by unfold badB; rw [Bool.eq_iff_iff]; simp only [Bool.or_eq_true, decide_eq_true_eq]; omega), rfl⟩
        all_goals
          go_meet
          exact ⟨congrArg Value.bool (by unfold badB; exact (decide_eq_true (by omega)).symm), rfl⟩
      case rest =>
      obtain ⟨rfl, rfl⟩ := hcut
      go_upto_region 19 with fail
      · exact bodyPost_ret (v := refused) (by simp [results, Try.results28, go_sem, refused]) rfl ⟨.inl rfl, hB3⟩
      · have hbad : badB hh mm sc = false := by assumption
        have hr := inRange_of _ _ _ hbad
        go_quiet (fail)
        go_wp2
        exact bodyPost_ret (v := taken hh mm sc ns (s.extract i s.size)) (by simp [results, Try.results28, go_sem, taken]) rfl ⟨.inr ⟨hh, mm, sc, ns, i, rfl, hr, n0, n1, i0, i1, ⟨h2, UInt8.toNat_inj.1 (by have := HC.out; have h58 : ((58 : UInt8).toNat : Int) = 58 := rfl; omega)⟩, EH.out, EM.out⟩, Go.below_drewN hB3 _⟩
    · have hc' : ((s[2].toNat : Int) != 58) = true := by simpa using hc
      clear hc
      go_enter Try.func28, Try.ntmps28
      go_wp2
      exact bodyPost_ret (v := refused) (by simp [results, Try.results28, go_sem, refused]) rfl ⟨.inl rfl, Below.refl _ _⟩
end Go.Proofs.Qxb6000618a
