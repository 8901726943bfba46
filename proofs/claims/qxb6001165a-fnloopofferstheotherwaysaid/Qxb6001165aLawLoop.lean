/-
  THE WALKS of the laws FnLoopOffersTheOtherWay and FnLoopKeepsCounts.
-/
import Derived.Test.Qxb6001165aStep
namespace Go.Proofs.Qxb6001165a
open Go.RowKit

theorem step_int (mn mx : Int) (gr : Bool) (r : Int) (dn x y ps : Int) (w : World) (h0 : 0 ≤ r) (hr : r ≤ 1024) :
    Calls Try.prog 26 #[.int .i64 mn, .int .i64 mx, .bool gr, .int .i64 r, .int .i64 dn, .int .i64 x, .int .i64 y, .int .i64 ps] w fun e w' => StepEnd mn mx gr dn x y ps e ∧ Below w.heap.size w w' := by
  obtain ⟨r, rfl⟩ := Int.eq_ofNat_of_zero_le h0
  exact step_any mn mx gr r dn x y ps w (by omega)

set_option maxRecDepth 4000 in
set_option maxHeartbeats 1000000 in
theorem offersWalk (mn mx : Int) (gr : Bool) (r dn x y ps : Int) (w : World) :
    Calls Try.prog 7 #[.int .i64 mn, .int .i64 mx, .bool gr, .int .i64 r, .int .i64 dn, .int .i64 x, .int .i64 y, .int .i64 ps] w fun e w' => e = .returned (.bool true) ∧ Below w.heap.size w w' := by
  by_cases h0 : r < 0
  · go_enter Try.func7, Try.ntmps7
    go_wp2
    go_ret
    exact ⟨rfl, Below.refl _ _⟩
  · by_cases h1 : 1024 < r
    · go_enter Try.func7, Try.ntmps7
      go_wp2
      go_ret
      exact ⟨rfl, Below.refl _ _⟩
    · go_enter Try.func7, Try.ntmps7
      go_wp2_with fail
      refine (step_int _ _ _ _ _ _ _ _ _ (by omega) (by omega)).mono ?_
      rintro e w1 ⟨he, hb⟩
      rcases he with ⟨ho, rfl⟩ | ⟨ho, rfl⟩
      · by_cases hc : 0 ≤ mx ∧ mx ≤ dn
        · rw [if_pos hc]
          obtain ⟨c1, c2⟩ := hc
          clear ho
          go_wp2
          all_goals (go_ret; exact ⟨rfl, hb⟩)
        · rw [if_neg hc]
          have hd : dn < mn := by unfold Opn at ho; omega
          clear ho
          by_cases hm : mx < 0
          · clear hc
            go_wp2
            all_goals (go_ret; exact ⟨rfl, hb⟩)
          · have hm2 : dn < mx := by omega
            clear hc
            go_wp2
            all_goals (go_ret; exact ⟨rfl, hb⟩)
      · obtain ⟨o1, o2⟩ := ho
        by_cases hm : mx < 0
        · clear o1
          cases gr
          · simp only [Bool.false_eq_true, if_false]
            go_wp2
            all_goals (go_ret; exact ⟨rfl, hb⟩)
          · simp only [if_true]
            go_wp2
            all_goals (go_ret; exact ⟨rfl, hb⟩)
        · have hm2 : dn < mx := by omega
          clear o1
          cases gr
          · simp only [Bool.false_eq_true, if_false]
            go_wp2
            all_goals (go_ret; exact ⟨rfl, hb⟩)
          · simp only [if_true]
            go_wp2
            all_goals (go_ret; exact ⟨rfl, hb⟩)

set_option maxRecDepth 4000 in
set_option maxHeartbeats 1000000 in
theorem countsWalk (mn mx : Int) (gr : Bool) (r dn x y ps : Int) (w : World) :
    Calls Try.prog 9 #[.int .i64 mn, .int .i64 mx, .bool gr, .int .i64 r, .int .i64 dn, .int .i64 x, .int .i64 y, .int .i64 ps] w fun e w' => e = .returned (.bool true) ∧ Below w.heap.size w w' := by
  by_cases h0 : r < 0
  · go_enter Try.func9, Try.ntmps9
    go_wp2
    go_ret
    exact ⟨rfl, Below.refl _ _⟩
  · by_cases h1 : 1024 < r
    · go_enter Try.func9, Try.ntmps9
      go_wp2
      go_ret
      exact ⟨rfl, Below.refl _ _⟩
    · by_cases hxy : x = y
      · have hq : (x == y) = true := by simp [hxy]
        clear hxy
        go_enter Try.func9, Try.ntmps9
        go_wp2
        go_ret
        exact ⟨rfl, Below.refl _ _⟩
      have hq : (x == y) = false := by simp [hxy]
      have hq2 : (y == x) = false := by simp; exact fun h => hxy h.symm
      clear hxy
      go_enter Try.func9, Try.ntmps9
      go_wp2_with fail
      refine (step_int _ _ _ _ _ _ _ _ _ (by omega) (by omega)).mono ?_
      rintro e w1 ⟨he, hb⟩
      rcases he with ⟨ho, rfl⟩ | ⟨ho, rfl⟩
      · by_cases hc : 0 ≤ mx ∧ mx ≤ dn
        · rw [if_pos hc]
          obtain ⟨c1, c2⟩ := hc
          clear ho
          go_wp2
          all_goals (go_ret; exact ⟨rfl, hb⟩)
        · rw [if_neg hc]
          have hd : dn < mn := by unfold Opn at ho; omega
          clear ho
          by_cases hm : mx < 0
          · clear hc
            go_wp2
            all_goals (go_ret; exact ⟨rfl, hb⟩)
          · have hm2 : dn < mx := by omega
            clear hc
            go_wp2
            all_goals (go_ret; exact ⟨rfl, hb⟩)
      · obtain ⟨o1, o2⟩ := ho
        by_cases hm : mx < 0
        · clear o1
          cases gr
          · simp only [Bool.false_eq_true, if_false]
            go_wp2
            all_goals (go_ret; exact ⟨rfl, hb⟩)
          · simp only [if_true]
            go_wp2
            all_goals (go_ret; exact ⟨rfl, hb⟩)
        · have hm2 : dn < mx := by omega
          clear o1
          cases gr
          · simp only [Bool.false_eq_true, if_false]
            go_wp2
            all_goals (go_ret; exact ⟨rfl, hb⟩)
          · simp only [if_true]
            go_wp2
            all_goals (go_ret; exact ⟨rfl, hb⟩)
end Go.Proofs.Qxb6001165a
