/-
  emit, whole: by recursion on the tree's depth.
-/
import Derived.Test.Qxb6001165aEmitC
import Derived.Test.Qxb6001165aEmitF
import Derived.Test.Qxb6001165aEmitH
namespace Go.Proofs.Qxb6001165a
open Go.RowKit

theorem EmitEnd.eq {w0 F : World} {P : Nat} {ops : List Nat} {nl nk nb : Nat} {u v : Nat → Nat} {e : Ending} {w' : World} (h : EmitEnd w0 F P ops nl nk nb u e w') (hv : ∀ i, i ≤ 14 → u i = v i) : EmitEnd w0 F P ops nl nk nb v e w' := by
  obtain ⟨rfl, ops', h1, h2⟩ := h
  refine ⟨rfl, ops', ?_, h2.eq hv⟩
  rw [← hv 13 (by omega), ← hv 14 (by omega)]
  exact h1

theorem emit_all (w0 : World) (P : Nat) (hP : w0.heap.size = P) : ∀ k, EmitAt w0 P k
  | 0 => fun F w a b v ops nl nk nb back hnd => hnd.elim
  | k + 1 => by
    intro F w a b v ops nl nk nb back hnd hp hl
    have ih := emit_all w0 P hP k
    obtain ⟨kd, mx, ao, n, cap, cs, sb, mn, gr, g, gs, ng, h1, h2, h3, h4, h5, k0, k11, ⟨kn3, kn1⟩, hne, -, hv, -, hset⟩ := hnd
    have hw : wt v = wt v := rfl
    have hcase : kd = 0 ∨ kd = 1 ∨ kd = 2 ∨ kd = 3 ∨ kd = 4 ∨ kd = 5 ∨ kd = 6 ∨ kd = 7 ∨ kd = 8 ∨ kd = 9 ∨ kd = 10 ∨ kd = 11 := by omega
    have one : n = 1 → ∃ row c, cs = [c] ∧ ao = some ⟨row, 0, none⟩ ∧ row < w0.heap.size ∧ w0.cell? ⟨row, 0, none⟩ = some (.pointer (some ⟨c.1, 0, none⟩)) := by
      intro e
      rcases h4 with h4 | ⟨row, e1, _, e2, e3⟩
      · omega
      · match cs, h3 with
        | [c], _ => exact ⟨row, c, rfl, e1, e2, e3 0 c rfl⟩
        | [], h3 => simp at h3; omega
        | _ :: _ :: _, h3 => simp at h3; omega
    rcases hcase with rfl | rfl | rfl | rfl | rfl | rfl | rfl | rfl | rfl | rfl | rfl | rfl
    · obtain rfl : v = vz := by rw [hv]; simp [vecOf]
      exact emit_0 w0 F w P a ops nl nk nb back _ sb mn mx gr g gs ng hP h2 hp
    · obtain rfl : v = ve 0 := by rw [hv]; simp [vecOf]
      exact emit_1 w0 F w P a ops nl nk nb back _ sb mn mx gr g gs ng hP h2 hset hp (by omega)
    · obtain rfl : v = vsum (cs.map (·.2.2)) := by rw [hv]; simp [vecOf]
      have hn0 : 0 < n := hne (by omega)
      rcases h4 with h4 | ⟨row, rfl, _, hrow, hr⟩
      · omega
      cases back with
      | false => exact emit_2f w0 F w P a k ops nl nk nb row n cap sb mn mx gr g gs ng hP h2 cs h3 kn3 hrow hr h5 ih hp hl
      | true => exact emit_2b w0 F w P a k ops nl nk nb row n cap sb mn mx gr g gs ng hP h2 cs h3 kn3 hrow hr h5 ih hp hl
    · obtain rfl : v = vadd (vsum (cs.map (·.2.2))) (fun i => ((cs.map (·.2.2)).length - 1) * (ve 1 i + ve 2 i)) := by rw [hv]; simp [vecOf]
      have hn0 : 0 < n := hne (by omega)
      rcases h4 with h4 | ⟨row, rfl, _, hrow, hr⟩
      · omega
      refine emit_3 w0 F w P a k ops nl nk nb back row n cap sb mn mx gr g gs ng hP h2 cs h3 hn0 kn3 hrow hr h5 ih hp ?_
      rw [wt_vadd, wt_twos] at hl
      simp [h3] at hl
      exact hl
    · obtain ⟨row, c, rfl, rfl, hrow, hr⟩ := one (kn1 (by omega))
      by_cases hm : mx = 0
      · subst hm
        obtain rfl : v = vz := by rw [hv]; simp [vecOf]
        exact emit_40 w0 F w P a ops nl nk nb back _ sb mn gr g gs ng hP h2 hp
      · have hv' : ∀ i, vadd c.2.2 (vadd (ve 8) (vadd (ve 9) (vadd (ve 10) (vadd (ve 11) (ve 13))))) i = v i := fun i => by
          rw [hv]; simp [vecOf, hm, vsum, vadd, vz]
        have hwv : wt v = wt (vadd c.2.2 (vadd (ve 8) (vadd (ve 9) (vadd (ve 10) (vadd (ve 11) (ve 13)))))) := by rw [show v = _ from (funext hv').symm]
        rw [hwv, wt_vadd] at hl
        have h10 : wt (vadd (ve 8) (vadd (ve 9) (vadd (ve 10) (vadd (ve 11) (ve 13))))) = 5 := by decide
        refine (emit_4 w0 F w P a k ops nl nk nb back row n cap sb mn mx gr g gs ng hP h2 hm (by have := kn1 (by omega); omega) c.1 c.2.1 c.2.2 hrow hr (h5 c (by simp)) ih hp (by omega)).mono ?_
        intro e w' h
        exact h.eq (fun i _ => hv' i)
    · obtain ⟨row, c, rfl, rfl, hrow, hr⟩ := one (kn1 (by omega))
      have hv' : ∀ i, vadd c.2.2 (vadd (ve 3) (ve 4)) i = v i := fun i => by
        rw [hv]; simp [vecOf, vsum, vadd, vz]
      have hwv : wt v = wt (vadd c.2.2 (vadd (ve 3) (ve 4))) := by rw [show v = _ from (funext hv').symm]
      rw [hwv, wt_vadd] at hl
      have h10 : wt (vadd (ve 3) (ve 4)) = 2 := by decide
      refine (emit_5 w0 F w P a k ops nl nk nb back row n cap sb mn mx gr g gs ng hP h2 (by have := kn1 (by omega); omega) c.1 c.2.1 c.2.2 hrow hr (h5 c (by simp)) ih hp (by omega)).mono ?_
      intro e w' h
      exact h.eq (fun i _ => hv' i)
    · obtain rfl : v = vadd (ve 6) (ve 14) := by rw [hv]; simp [vecOf]
      exact emit_6 w0 F w P a ops nl nk nb back _ sb mn mx gr g gs ng hP h2 hp (by omega)
    · obtain rfl : v = ve 7 := by rw [hv]; simp [vecOf]
      exact emit_7 w0 F w P a ops nl nk nb back _ sb mn mx gr g gs ng hP h2 hp (by omega)
    · obtain rfl : v = ve 5 := by rw [hv]; simp [vecOf]
      exact emit_8 w0 F w P a ops nl nk nb back _ sb mn mx gr g gs ng hP h2 hp (by omega)
    · obtain rfl : v = ve 5 := by rw [hv]; simp [vecOf]
      exact emit_9 w0 F w P a ops nl nk nb back _ sb mn mx gr g gs ng hP h2 hp (by omega)
    · obtain rfl : v = ve 5 := by rw [hv]; simp [vecOf]
      exact emit_10 w0 F w P a ops nl nk nb back _ sb mn mx gr g gs ng hP h2 hp (by omega)
    · obtain rfl : v = ve 5 := by rw [hv]; simp [vecOf]
      exact emit_11 w0 F w P a ops nl nk nb back _ sb mn mx gr g gs ng hP h2 hp (by omega)
end Go.Proofs.Qxb6001165a
