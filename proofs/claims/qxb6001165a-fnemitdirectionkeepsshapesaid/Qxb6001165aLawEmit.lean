/-
  THE WALK of the law FnEmitDirectionKeepsShape.
-/
import Derived.Test.Qxb6001165aClone
import Derived.Test.Qxb6001165aZZEmit
namespace Go.Proofs.Qxb6001165a
open Go.RowKit

/-- The bounds' function answers, whatever it answers. -/
theorem bytes20 (a0 : Option Addr) (l0 c0 : Nat) (w : World) (h0 : l0 ≤ maxLen) :
    Calls Try.prog 20 #[.slice a0 l0 c0] w fun e w' => ∃ bb, e = .returned (.bool bb) ∧ w = w' := by
  unfold maxLen at h0
  go_enter Try.func20, Try.ntmps20
  go_wp2
  all_goals
    go_ret
    exact ⟨_, rfl, rfl⟩

theorem Prg.le12 {w0 F w : World} {P : Nat} {ops : List Nat} {nl nk nb i o : Nat} (hp : Prg w0 F w P ops nl nk nb) (hi : ops[i]? = some o) : o ≤ 12 := by
  obtain ⟨ai, al, ak, ab, ci, cl, ck, cb, xs, xl, xk, xb, h1, h2, h3, h4, h5, h6, h7, h8, h9⟩ := hp
  exact (h7 i o hi).1

abbrev CtsNew : Obj := .cells #[.int .i64 0, .int .i64 0, .int .i64 0, .int .i64 0, .int .i64 0, .int .i64 0, .int .i64 0, .int .i64 0, .int .i64 0, .int .i64 0, .int .i64 0, .int .i64 0, .int .i64 0] 43
theorem Cts.new {ws : World} {A : Nat} (h : ws.heap[A]? = some CtsNew) : Cts ws A [] := by
  refine ⟨_, h, rfl, fun j hj => ?_⟩
  have : ∀ j : Nat, j ≤ 12 → (#[Value.int .i64 0, .int .i64 0, .int .i64 0, .int .i64 0, .int .i64 0, .int .i64 0, .int .i64 0, .int .i64 0, .int .i64 0, .int .i64 0, .int .i64 0, .int .i64 0, .int .i64 0] : Array Value)[j]? = some (.int .i64 0) := by
    intro j hj
    match j, hj with
    | 0, _ | 1, _ | 2, _ | 3, _ | 4, _ | 5, _ | 6, _ | 7, _ | 8, _ | 9, _ | 10, _ | 11, _ | 12, _ => rfl
  exact this j hj

/-- How far the counting has come. -/
def Tally (w4 ws : World) (ops1 ops2 : List Nat) : Prop := Below w4.heap.size w4 ws ∧ Cts ws w4.heap.size ops1 ∧ Cts ws (w4.heap.size + 1) ops2

set_option maxRecDepth 4000 in
set_option maxHeartbeats 4000000 in
theorem emitWalk (a0 : Option Addr) (l0 c0 : Nat) (z0 : List Int) (w : World) (h0 : InRow w a0 l0 c0 z0) (m0 : l0 ≤ maxLen) :
    Calls Try.prog 6 #[.slice a0 l0 c0] w fun e w' => e = .returned (.bool true) ∧ Below w.heap.size w w' := by
  have HB : Hid (Calls Try.prog 20 #[.slice a0 l0 c0] w fun e w' => ∃ bb, e = .returned (.bool bb) ∧ w = w') := bytes20 a0 l0 c0 w m0
  have H0 : Hid (InRow w a0 l0 c0 z0) := h0
  clear h0 m0
  go_enter Try.func6, Try.ntmps6
  go_wp2_with fail
  refine HB.out.mono ?_
  rintro e w' ⟨bb, rfl, rfl⟩
  cases bb
  · go_wp2
    go_ret
    exact ⟨rfl, Below.refl _ _⟩
  by_cases g0 : (65536 : Int) < (l0 : Int)
  · go_wp2
    go_ret
    exact ⟨rfl, Below.refl _ _⟩
  go_wp2_with fail
  refine (clone_any _ _ _ z0 _ (by omega) H0.out).mono ?_
  rintro e w1 ⟨b0, rfl, t0, e1⟩
  have T0 : Hid (Toks w1 w1.heap.size (.slice b0 l0 l0) l0) := t0
  have E1 : Hid (Below w.heap.size w w1) := e1
  clear t0 e1 HB H0
  go_wp2_with fail
  refine (decode_any _ _ _ (by omega) T0.out).mono ?_
  rintro e w2 ⟨a, k, b, v, rfl, hnd, hwt, e2⟩
  have HN : Hid (Nd k w2 0 a b v) := hnd.base (Nat.zero_le _)
  have E2 : Hid (Below w.heap.size w w2) := E1.out.trans (e2.mono E1.out.size)
  have hwv : 2 * wt v ≤ 2000000 := by omega
  clear hnd hwt e2 E1 T0
  go_wp2_with fail
  refine (zzEmit w2 k a b v false HN.out hwv).mono ?_
  rintro e w3 ⟨ops1, ab1, cb1, rfl, hp1, hc1⟩
  have HN3 : Hid (Nd k w3 0 a b v) := HN.out.below hp1.below
  have HP1 : Hid (Prg w2 w2 w3 w2.heap.size ops1 (v 13) (v 14) (v 14)) := hp1
  have HC1 : Hid (Cnt ops1 v) := hc1
  clear hp1 hc1 HN
  go_wp2_with fail
  refine (zzEmit w3 k a b v true HN3.out hwv).mono ?_
  rintro e w4 ⟨ops2, ab2, cb2, rfl, hp2, hc2⟩
  have HP2 : Hid (Prg w3 w3 w4 w3.heap.size ops2 (v 13) (v 14) (v 14)) := hp2
  have HC2 : Hid (Cnt ops2 v) := hc2
  have HP14 : Hid (Prg w2 w2 w4 w2.heap.size ops1 (v 13) (v 14) (v 14)) := HP1.out.more hp2.below
  have E4 : Hid (Below w.heap.size w w4) := (E2.out.trans (HP1.out.below.mono E2.out.size)).trans (hp2.below.mono (E2.out.trans (HP1.out.below.mono E2.out.size)).size)
  obtain ⟨N, hN⟩ : ∃ N, N = ops1.length := ⟨_, rfl⟩
  have hN2 : N = ops2.length := by
    have x1 := HC1.out.2
    have x2 := hc2.2
    omega
  have hNb : N ≤ 2000000 := by have x1 := HC1.out.2; omega
  have K1 : Hid (Calls Try.prog 22 #[.pointer (some ⟨w2.heap.size, 0, none⟩)] w4 fun e w' => e = .returned (.int .i64 N) ∧ w4 = w') := by rw [hN]; exact instCount _ _ _ _ _ _ _ _ HP14.out
  have K2 : Hid (Calls Try.prog 22 #[.pointer (some ⟨w3.heap.size, 0, none⟩)] w4 fun e w' => e = .returned (.int .i64 N) ∧ w4 = w') := by rw [hN2]; exact instCount _ _ _ _ _ _ _ _ hp2
  have HL1 : Hid (N = ops1.length) := hN
  have HL2 : Hid (N = ops2.length) := hN2
  clear hp2 hc2 HN3 HP1 hN hN2 E2
  go_wp2_with fail
  refine K1.out.mono ?_
  rintro e w' ⟨rfl, rfl⟩
  go_wp2_with fail
  refine K2.out.mono ?_
  rintro e w' ⟨rfl, rfl⟩
  go_wp2_with fail
  refine (loopCount _ _ _ _ _ _ _ _ HP14.out).mono ?_
  rintro e w' ⟨rfl, rfl⟩
  go_wp2_with fail
  refine (loopCount _ _ _ _ _ _ _ _ HP2.out).mono ?_
  rintro e w' ⟨rfl, rfl⟩
  go_wp2_with fail
  refine (lookCount _ _ _ _ _ _ _ _ HP14.out).mono ?_
  rintro e w' ⟨rfl, rfl⟩
  go_wp2_with fail
  refine (lookCount _ _ _ _ _ _ _ _ HP2.out).mono ?_
  rintro e w' ⟨rfl, rfl⟩
  have HT0 : Hid (Tally w4 ((w4.alloc CtsNew).alloc CtsNew) (ops1.take 0) (ops2.take 0)) :=
    ⟨((Below.refl _ w4).alloc (Nat.le_refl _) _).alloc (by show w4.heap.size ≤ (w4.heap.push _).size; simp) _, Cts.new (heap_mid2 w4 _ _), Cts.new (heap_top2 w4 _ _)⟩
  clear K1 K2
  go_wp2
  go_loopw [13] (fun si ws => ∃ i : Nat, i ≤ N ∧ si = .int .i64 i ∧ Hid (Tally w4 ws (ops1.take i) (ops2.take i))) (fun si _ => N - (intOf si).toNat)
  case atStart => exact ⟨0, by omega, rfl, HT0⟩
  case round =>
    obtain ⟨i, hi, rfl, HT⟩ := hrel
    by_cases hlt : i < N
    · obtain ⟨o1, ho1⟩ : ∃ o, ops1[i]? = some o := ⟨_, List.getElem?_eq_getElem (by have := HL1.out; omega)⟩
      obtain ⟨o2, ho2⟩ : ∃ o, ops2[i]? = some o := ⟨_, List.getElem?_eq_getElem (by have := HL2.out; omega)⟩
      have q1 : o1 ≤ 12 := HP14.out.le12 ho1
      have q2 : o2 ≤ 12 := HP2.out.le12 ho2
      have HO1 : Hid (ops1[i]? = some o1) := ho1
      have HO2 : Hid (ops2[i]? = some o2) := ho2
      clear ho1 ho2
      go_wp2_with fail
      refine (instAt w2 w2 wr w2.heap.size ops1 _ _ _ i o1 (HP14.out.more HT.out.1) rfl HO1.out).mono ?_
      rintro e x1 ⟨⟨y1, y2, y3, y4, y5, y6, y7, rfl⟩, hb1⟩
      have HB1 : Hid (Below w4.heap.size w4 x1) := HT.out.1.trans (hb1.mono HT.out.1.size)
      have HX1 : Hid (Tally w4 x1 (ops1.take i) (ops2.take i)) := ⟨HB1.out, HT.out.2.1.below hb1, HT.out.2.2.below hb1⟩
      clear hb1
      go_wp2_with fail
      refine (instAt w3 w3 x1 w3.heap.size ops2 _ _ _ i o2 (HP2.out.more HB1.out) rfl HO2.out).mono ?_
      rintro e x2 ⟨⟨s1, s2, s3, s4, s5, s6, s7, rfl⟩, hb2⟩
      obtain ⟨n1, hn1⟩ : ∃ n1, n1 = (ops1.take i).count o1 := ⟨_, rfl⟩
      obtain ⟨n2, hn2⟩ : ∃ n2, n2 = (ops2.take i).count o2 := ⟨_, rfl⟩
      have t1 := HX1.out.2.1.below hb2
      have t2 := HX1.out.2.2.below hb2
      obtain ⟨d1, f1⟩ := t1.cell q1
      obtain ⟨d2, f2⟩ := t2.cell q2
      rw [← hn1] at d1
      rw [← hn2] at d2
      have b1 : n1 ≤ 2000000 := by
        have h1 : (ops1.take i).count o1 ≤ (ops1.take i).length := List.count_le_length
        have h2 : (ops1.take i).length ≤ i := by simp; omega
        omega
      have b2 : n2 ≤ 2000000 := by
        have h1 : (ops2.take i).count o2 ≤ (ops2.take i).length := List.count_le_length
        have h2 : (ops2.take i).length ≤ i := by simp; omega
        omega
      have HY : Hid (Tally w4 ((x2.setCell ⟨w4.heap.size, o1, none⟩ (.int .i64 ((n1 : Int) + 1))).setCell ⟨w4.heap.size + 1, o2, none⟩ (.int .i64 ((n2 : Int) + 1))) (ops1.take (i + 1)) (ops2.take (i + 1))) := by
        have e1 : ops1.take (i + 1) = ops1.take i ++ [o1] := by rw [List.take_add_one, HO1.out]; rfl
        have e2 : ops2.take (i + 1) = ops2.take i ++ [o2] := by rw [List.take_add_one, HO2.out]; rfl
        rw [e1, e2, hn1, hn2]
        refine ⟨?_, (t1.bump q1).other (by omega), (t2.other (by omega)).bump q2⟩
        exact ((HX1.out.1.trans (hb2.mono HX1.out.1.size)).setCell (p := ⟨w4.heap.size, o1, none⟩) (Nat.le_refl _) _).setCell (p := ⟨w4.heap.size + 1, o2, none⟩) (by simp) _
      have r1 : (o1 : Int) < 13 := by omega
      have r2 : (o2 : Int) < 13 := by omega
      have r3 : ¬ (12 : Int) < (o1 : Int) := by omega
      have r4 : ¬ (12 : Int) < (o2 : Int) := by omega
      clear t1 t2 hb2 hn1 hn2 HX1 HB1 HT
      go_wp2_with fail
      go_roundw
      case rel => exact ⟨i + 1, by omega, by go_num, HY⟩
      case measure => simp [intOf]; omega
    · obtain rfl : i = N := by omega
      have HT' : Hid (Tally w4 wr ops1 ops2) := by
        have h := HT.out
        rw [List.take_of_length_le (by rw [← HL1.out]; omega), List.take_of_length_le (by rw [← HL2.out]; omega)] at h
        exact h
      clear HT HT0
      go_wp2
      go_loopw [30] (fun sj ws => ∃ j : Nat, j ≤ 13 ∧ sj = .int .i64 j ∧ Hid (Tally w4 ws ops1 ops2)) (fun sj _ => 13 - (intOf sj).toNat)
      case atStart => exact ⟨0, by omega, rfl, HT'⟩
      case round =>
        obtain ⟨j, hj, rfl, HT2⟩ := hrel
        by_cases hlt2 : j < 13
        · have d1 := (HT2.out.2.1.cell (j := j) (by omega)).1
          have d2 := (HT2.out.2.2.cell (j := j) (by omega)).1
          rw [HC1.out.1 j (by omega)] at d1
          rw [HC2.out.1 j (by omega)] at d2
          have hj1 : (j : Int) < 13 := by omega
          have HD : Hid (∀ n, Tally w4 (wr.drewN n) ops1 ops2) := fun n => ⟨HT2.out.1.trans ⟨rfl, rfl, rfl, Nat.le_refl _, fun _ _ => rfl⟩, HT2.out.2.1, HT2.out.2.2⟩
          go_wp2
          go_quiet (fail)
          go_wp2
          go_roundw
          case rel => exact ⟨j + 1, by omega, by go_num, HD.out _⟩
          case measure => simp [intOf]; omega
        · obtain rfl : j = 13 := by omega
          go_wp2
          go_ret
          exact ⟨rfl, E4.out.trans (HT2.out.1.mono E4.out.size)⟩
end Go.Proofs.Qxb6001165a
