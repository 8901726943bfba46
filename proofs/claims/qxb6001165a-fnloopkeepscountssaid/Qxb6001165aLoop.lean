/-
  THE WALKS of (*machine).iterations and (*machine).loop.
-/
import Derived.Test.Qxb6001165aRows
import Derived.WalkKit
import Derived.WalkSpells
import Derived.RowKit3
import Derived.Deep.DeepCutAuto
import Derived.Deep.QuietTactic
import Derived.BigQuiet
import Derived.RegionTactic
import Derived.BigRegion
import Derived.Deep.RegionLawGrows
import Derived.WalkSmall
namespace Go.Proofs.Qxb6001165a
open Go.RowKit

theorem ret_bool {a b : Bool} (h : a = b) : Ending.returned (.bool a) = .returned (.bool b) := by rw [h]
theorem ret_int {k : IntKind} {a b : Int} (h : a = b) : Ending.returned (.int k a) = .returned (.int k b) := by rw [h]

theorem iter_any (M P : Nat) (r : Nat) (w : World) (hr : r ≤ 1024)
    (hM0 : w.cell? ⟨M, 0, none⟩ = some (.pointer (some ⟨P, 0, none⟩))) (hP3 : w.cell? ⟨P, 3, none⟩ = some (.int .i64 0)) :
    Calls Try.prog 31 #[.pointer (some ⟨M, 0, none⟩), .int .i64 r] w fun e w' => e = .returned (.int .i64 (3 + 2 * (r : Int))) ∧ w' = w := by
  go_enter Try.func31, Try.ntmps31
  go_wp2
  go_ret
  exact ⟨rfl, rfl⟩

theorem Try.info78 : (Try.prog.info? 78).map (fun i => (i.zero, i.size, i.bytes)) = some (some (.agg #[.int .i64 0, .int .i64 0, .int .i64 0]), 3, 24) := by kernel_rfl

/-- Behind the append of one entry: the value written out, the receiver's cell and the entry's cells in the new world. -/
theorem push_facts {W w' : World} {M : Nat} {v' : Value} {a b c u : Value} (hown : w'.ownsRow W.heap.size 78 3 v' (0 + 1) ([] ++ [a, b, c])) (hgrow : W.grownBy w' none) (hM : M < W.heap.size)
    (hM3 : W.cell? ⟨M, 3, none⟩ = some u) (fM3 : W.frozen? ⟨M, 3, none⟩ = false) :
    ∃ g cap, v' = .slice (some ⟨g, 0, none⟩) 1 cap ∧ W.heap.size ≤ g ∧ w'.cell? ⟨M, 3, none⟩ = some u ∧ w'.frozen? ⟨M, 3, none⟩ = false ∧
      w'.cell? ⟨g, 0, none⟩ = some a ∧ w'.cell? ⟨g, 1, none⟩ = some b ∧ w'.cell? ⟨g, 2, none⟩ = some c ∧ Below W.heap.size W w' := by
  have hB : Below W.heap.size W w' := (Below.refl _ _).grown hgrow (Nat.le_refl _) (fun k h => by cases h)
  obtain ⟨g, cap, hv⟩ : ∃ g cap, v' = .slice (some ⟨g, 0, none⟩) 1 cap := by
    rcases hown.2 with ⟨_, h⟩ | ⟨g, cap, _, h, _⟩
    · omega
    · exact ⟨g, cap, h⟩
  subst hv
  have hg := (hown.lt g rfl).1
  have hc := hown.cells (g := g) rfl
  exact ⟨g, cap, rfl, hg, (hB.cell (p := ⟨M, 3, none⟩) hM).trans hM3, (hB.frozen (p := ⟨M, 3, none⟩) hM).trans fM3, hc 0 a rfl, hc 1 b rfl, hc 2 c rfl, hB⟩

/-- Both ways are open. -/
def Opn (mn mx dn : Int) : Prop := (mx < 0 ∨ dn < mx) ∧ mn ≤ dn
/-- What (*machine).loop leaves: the way taken, the choice on the stack. -/
def Left (M : Nat) (mn mx : Int) (gr : Bool) (dn x y ps : Int) (e : Ending) (w' : World) : Prop :=
  (¬ Opn mn mx dn ∧ e = .returned (.int .i64 (if 0 ≤ mx ∧ mx ≤ dn then y else x)) ∧ w'.cell? ⟨M, 3, none⟩ = some (.slice none 0 0)) ∨
  (Opn mn mx dn ∧ ∃ g cap, e = .returned (.int .i64 (if gr then x else y)) ∧ w'.cell? ⟨M, 3, none⟩ = some (.slice (some ⟨g, 0, none⟩) 1 cap) ∧ w'.cell? ⟨g, 0, none⟩ = some (.int .i64 (-1)) ∧
    w'.cell? ⟨g, 1, none⟩ = some (.int .i64 (if gr then y else x)) ∧ w'.cell? ⟨g, 2, none⟩ = some (.int .i64 ps))

/-- The world behind the first two statements. -/
def Mid (w wx : World) (M I : Nat) (mn mx : Int) (gr : Bool) (x y : Int) : Prop :=
  wx.cell? ⟨M, 3, none⟩ = some (.slice none 0 0) ∧ wx.frozen? ⟨M, 3, none⟩ = false ∧ wx.cell? ⟨I, 3, none⟩ = some (.int .i64 x) ∧ wx.cell? ⟨I, 4, none⟩ = some (.int .i64 y) ∧
  wx.cell? ⟨w.heap.size, 0, none⟩ = some (.int .i64 mn) ∧ wx.cell? ⟨w.heap.size, 1, none⟩ = some (.int .i64 mx) ∧ wx.cell? ⟨w.heap.size, 2, none⟩ = some (.bool gr) ∧ Below w.heap.size w wx ∧ w.heap.size < wx.heap.size

theorem three_cells (w : World) (a b c : Value) : ∀ j u, [a, b, c][j]? = some u → (w.alloc (.cells #[a, b, c] 78)).cell? ((⟨w.heap.size, 0, none⟩ : Addr).add j) = some u := by
  intro j u hj
  match j, hj with
  | 0, hj => simp at hj; subst hj; show (w.alloc _).cell? ⟨w.heap.size, 0 + 0, none⟩ = _; rw [World.cell?_alloc_at _ _ _ _ rfl]; rfl
  | 1, hj => simp at hj; subst hj; show (w.alloc _).cell? ⟨w.heap.size, 0 + 1, none⟩ = _; rw [World.cell?_alloc_at _ _ _ _ rfl]; rfl
  | 2, hj => simp at hj; subst hj; show (w.alloc _).cell? ⟨w.heap.size, 0 + 2, none⟩ = _; rw [World.cell?_alloc_at _ _ _ _ rfl]; rfl
theorem three_one (a b c : Int) : ∀ u ∈ [Value.int .i64 a, .int .i64 b, .int .i64 c], u.oneCell' = true := by
  intro u hu
  simp at hu
  rcases hu with rfl | rfl | rfl <;> rfl
theorem past_lt {w : World} {M : Nat} (h : M < w.heap.size) (o : Obj) : M < (w.alloc o).drew.heap.size := by
  show M < (w.heap.push o).size; simp; omega
theorem past_cell {w : World} {M : Nat} {u : Value} (h : M < w.heap.size) (hc : w.cell? ⟨M, 3, none⟩ = some u) (o : Obj) : (w.alloc o).drew.cell? ⟨M, 3, none⟩ = some u := (World.cell?_alloc_past _ _ _ h).trans hc
theorem past_frozen {w : World} {M : Nat} (h : M < w.heap.size) (hc : w.frozen? ⟨M, 3, none⟩ = false) (o : Obj) : (w.alloc o).drew.frozen? ⟨M, 3, none⟩ = false := (World.frozen?_alloc_past _ _ _ h).trans hc

theorem past_le {w : World} {M g : Nat} {o : Obj} (h : M < w.heap.size) (hg : (w.alloc o).drew.heap.size ≤ g) : g ≠ M := by
  have e : (w.alloc o).drew.heap.size = w.heap.size + 1 := by show (w.heap.push o).size = _; simp
  omega
theorem after_push {w' : World} {M g : Nat} {u v a b c : Value} (m3 : w'.cell? ⟨M, 3, none⟩ = some u) (hg : g ≠ M) (e0 : w'.cell? ⟨g, 0, none⟩ = some a) (e1 : w'.cell? ⟨g, 1, none⟩ = some b) (e2 : w'.cell? ⟨g, 2, none⟩ = some c) :
    (w'.setCell ⟨M, 3, none⟩ v).cell? ⟨M, 3, none⟩ = some v ∧ (w'.setCell ⟨M, 3, none⟩ v).cell? ⟨g, 0, none⟩ = some a ∧ (w'.setCell ⟨M, 3, none⟩ v).cell? ⟨g, 1, none⟩ = some b ∧ (w'.setCell ⟨M, 3, none⟩ v).cell? ⟨g, 2, none⟩ = some c := by
  refine ⟨?_, ?_, ?_, ?_⟩
  · exact World.cell?_setCell_same _ _ _ m3
  · rw [World.cell?_of_block (Below.heap_setCell _ _ _ _ hg)]; exact e0
  · rw [World.cell?_of_block (Below.heap_setCell _ _ _ _ hg)]; exact e1
  · rw [World.cell?_of_block (Below.heap_setCell _ _ _ _ hg)]; exact e2
theorem below_push {w wc w' : World} {o : Obj} {M : Nat} (hB : Below w.heap.size w wc) (aM : M < wc.heap.size) (hM : M ≤ w.heap.size) (hB' : Below (wc.alloc o).drew.heap.size (wc.alloc o).drew w') (v : Value) : Below M w (w'.setCell ⟨M, 3, none⟩ v) :=
  ((hB.mono hM).trans ((((Below.refl M wc).alloc (by omega) o).drew).trans (hB'.mono (Nat.le_of_lt (past_lt aM o))))).setCell (Nat.le_refl _) _

set_option maxRecDepth 4000 in
set_option maxHeartbeats 1000000 in
theorem loop_any (M P L I R n : Nat) (mn mx : Int) (gr : Bool) (r : Nat) (dn x y ps : Int) (w : World) (hr : r ≤ 1024) (hn : 3 + 2 * r < n)
    (bM : M < w.heap.size) (bP : P < w.heap.size) (bL : L < w.heap.size) (bI : I < w.heap.size) (bR : R < w.heap.size)
    (hM0 : w.cell? ⟨M, 0, none⟩ = some (.pointer (some ⟨P, 0, none⟩))) (hM2 : w.cell? ⟨M, 2, none⟩ = some (.slice (some ⟨R, 0, none⟩) n n)) (hM3 : w.cell? ⟨M, 3, none⟩ = some (.slice none 0 0)) (fM3 : w.frozen? ⟨M, 3, none⟩ = false)
    (hP1 : w.cell? ⟨P, 1, none⟩ = some (.slice (some ⟨L, 0, none⟩) (r + 1) (r + 1))) (hP3 : w.cell? ⟨P, 3, none⟩ = some (.int .i64 0))
    (hL0 : w.cell? ⟨L, r * 5, none⟩ = some (.int .i64 mn)) (hL1 : w.cell? ⟨L, r * 5 + 1, none⟩ = some (.int .i64 mx)) (hL2 : w.cell? ⟨L, r * 5 + 2, none⟩ = some (.bool gr)) (hL3 : w.cell? ⟨L, r * 5 + 3, none⟩ = some (.int .i64 0)) (hL4 : w.cell? ⟨L, r * 5 + 4, none⟩ = some (.int .i64 0))
    (hI2 : w.cell? ⟨I, 2, none⟩ = some (.int .i64 r)) (hI3 : w.cell? ⟨I, 3, none⟩ = some (.int .i64 x)) (hI4 : w.cell? ⟨I, 4, none⟩ = some (.int .i64 y))
    (hR : w.cell? ⟨R, 3 + 2 * r, none⟩ = some (.int .i64 dn)) (hMI : ¬ M = I) :
    Calls Try.prog 32 #[.pointer (some ⟨M, 0, none⟩), .pointer (some ⟨I, 0, none⟩), .int .i64 ps] w fun e w' => Left M mn mx gr dn x y ps e w' ∧ Below M w w' := by
  obtain ⟨i0, hi, hz0, hz1, hz2⟩ := info_parts Try.info78
  have b0 : (0 : Int) ≤ (r : Int) := by omega
  have b1 : (r : Int) < (r : Int) + 1 := by omega
  go_enter Try.func32, Try.ntmps32
  go_wp2
  go_region
  go_wp2
  have c0 : (0 : Int) ≤ 3 + 2 * (r : Int) := by omega
  have c1 : 3 + 2 * (r : Int) < (n : Int) := by omega
  have cN : (3 + 2 * (r : Int)).toNat = 3 + 2 * r := by omega
  have k0 : ∀ o, (w.alloc o).cell? ⟨M, 0, none⟩ = some (.pointer (some ⟨P, 0, none⟩)) := fun o => by rw [World.cell?_alloc_past _ _ _ bM]; exact hM0
  have k3 : ∀ o, (w.alloc o).cell? ⟨P, 3, none⟩ = some (.int .i64 0) := fun o => by rw [World.cell?_alloc_past _ _ _ bP]; exact hP3
  go_upto_region 2 with fail
  go_cut [8] from 9 (fun s8 wx => s8 = .int .i64 dn ∧ Mid w wx M I mn mx gr x y)
  case first =>
    go_quiet ((go_at_call 31; refine (iter_any M P r _ hr ?_ ?_).mono ?_; exact k0 _; exact k3 _; rintro e w' ⟨rfl, rfl⟩; exact ⟨rfl, _, rfl⟩))
    go_wp2_with fail
    go_meet
    refine ⟨rfl, (World.cell?_alloc_past _ _ _ bM).trans hM3, (World.frozen?_alloc_past _ _ _ bM).trans fM3, (World.cell?_alloc_past _ _ _ bI).trans hI3, (World.cell?_alloc_past _ _ _ bI).trans hI4, ?_, ?_, ?_, below_drewN ((Below.refl _ _).alloc (Nat.le_refl _) _).drew _, ?_⟩
    · show (w.alloc _).cell? ⟨w.heap.size, 0, none⟩ = _; rw [World.cell?_alloc_at _ _ _ _ rfl]; rfl
    · show (w.alloc _).cell? ⟨w.heap.size, 1, none⟩ = _; rw [World.cell?_alloc_at _ _ _ _ rfl]; rfl
    · show (w.alloc _).cell? ⟨w.heap.size, 2, none⟩ = _; rw [World.cell?_alloc_at _ _ _ _ rfl]; rfl
    · show w.heap.size < (w.heap.push _).size; simp
  case rest =>
  obtain ⟨rfl, m3, f3, j3, j4, l0, l1, l2, hB, hsz⟩ := hcut
  have aM : M < wc.heap.size := by omega
  have aN : w.heap.size < wc.heap.size := hsz
  have aI : I < wc.heap.size := by omega
  have hIM : ¬ I = M := fun h => hMI h.symm
  clear hM0 hM2 hM3 fM3 hP1 hP3 hL0 hL1 hL2 hL3 hL4 hI2 hI3 hI4 hR k0 k3 bP bL bR b0 b1 c0 c1 cN
  go_wp2
  · go_ret
    exact ⟨.inl ⟨by unfold Opn; omega, ret_int (by rw [if_pos (by omega)]), m3⟩, hB.mono (by omega)⟩
  · go_ret
    exact ⟨.inl ⟨by unfold Opn; omega, ret_int (by rw [if_neg (by omega)]), m3⟩, hB.mono (by omega)⟩
  · have hgr : gr = true := by assumption
    go_region_law (refine step_append_grows rfl (.tmp 64) (.tmp 71) 70 rfl 78 i0 (.agg #[.int .i64 0, .int .i64 0, .int .i64 0]) 3 24 Try.underlying70 hi hz0 hz1 hz2 rfl (by decide) none 0 0 [] (by simp [Act.eval]) (fun _ => ⟨rfl, rfl⟩) rfl (by intro b hb; cases hb) ⟨wc.heap.size, 0, none⟩ 1 1 [.int .i64 (-1), .int .i64 y, .int .i64 ps] (by simp [Act.eval]) rfl (three_cells _ _ _ _) (three_one _ _ _) (by omega) (by unfold maxLen; omega) (by omega) ?_; intro v' w' hown hgrow; obtain ⟨g, cap, rfl, hg, m3', f3', e0, e1, e2, hB'⟩ := push_facts hown hgrow (M := M) (past_lt aM _) (past_cell aM m3 _) (past_frozen aM f3 _); clear hown hgrow)
    all_goals
      have j3' := (hB'.cell (p := ⟨I, 3, none⟩) (past_lt aI _)).trans ((World.cell?_alloc_past _ _ _ aI).trans j3)
      have j4' := (hB'.cell (p := ⟨I, 4, none⟩) (past_lt aI _)).trans ((World.cell?_alloc_past _ _ _ aI).trans j4)
      go_wp2
      go_ret
      obtain ⟨q0, q1, q2, q3⟩ := after_push (v := .slice (some ⟨g, 0, none⟩) 1 cap) m3' (past_le aM hg) e0 e1 e2
      exact ⟨.inr ⟨by unfold Opn; omega, g, cap, ret_int (by simp [hgr]), q0, q1, by simpa [hgr] using q2, q3⟩, below_push hB aM (by omega) hB' _⟩
  · have hgr : gr = false := by assumption
    go_region_law (refine step_append_grows rfl (.tmp 83) (.tmp 90) 70 rfl 78 i0 (.agg #[.int .i64 0, .int .i64 0, .int .i64 0]) 3 24 Try.underlying70 hi hz0 hz1 hz2 rfl (by decide) none 0 0 [] (by simp [Act.eval]) (fun _ => ⟨rfl, rfl⟩) rfl (by intro b hb; cases hb) ⟨wc.heap.size, 0, none⟩ 1 1 [.int .i64 (-1), .int .i64 x, .int .i64 ps] (by simp [Act.eval]) rfl (three_cells _ _ _ _) (three_one _ _ _) (by omega) (by unfold maxLen; omega) (by omega) ?_; intro v' w' hown hgrow; obtain ⟨g, cap, rfl, hg, m3', f3', e0, e1, e2, hB'⟩ := push_facts hown hgrow (M := M) (past_lt aM _) (past_cell aM m3 _) (past_frozen aM f3 _); clear hown hgrow)
    all_goals
      have j3' := (hB'.cell (p := ⟨I, 3, none⟩) (past_lt aI _)).trans ((World.cell?_alloc_past _ _ _ aI).trans j3)
      have j4' := (hB'.cell (p := ⟨I, 4, none⟩) (past_lt aI _)).trans ((World.cell?_alloc_past _ _ _ aI).trans j4)
      go_wp2
      go_ret
      obtain ⟨q0, q1, q2, q3⟩ := after_push (v := .slice (some ⟨g, 0, none⟩) 1 cap) m3' (past_le aM hg) e0 e1 e2
      exact ⟨.inr ⟨by unfold Opn; omega, g, cap, ret_int (by simp [hgr]), q0, q1, by simpa [hgr] using q2, q3⟩, below_push hB aM (by omega) hB' _⟩
  · go_ret
    exact ⟨.inl ⟨by unfold Opn; omega, ret_int (by rw [if_neg (by omega)]), m3⟩, hB.mono (by omega)⟩
  · have hgr : gr = true := by assumption
    go_region_law (refine step_append_grows rfl (.tmp 64) (.tmp 71) 70 rfl 78 i0 (.agg #[.int .i64 0, .int .i64 0, .int .i64 0]) 3 24 Try.underlying70 hi hz0 hz1 hz2 rfl (by decide) none 0 0 [] (by simp [Act.eval]) (fun _ => ⟨rfl, rfl⟩) rfl (by intro b hb; cases hb) ⟨wc.heap.size, 0, none⟩ 1 1 [.int .i64 (-1), .int .i64 y, .int .i64 ps] (by simp [Act.eval]) rfl (three_cells _ _ _ _) (three_one _ _ _) (by omega) (by unfold maxLen; omega) (by omega) ?_; intro v' w' hown hgrow; obtain ⟨g, cap, rfl, hg, m3', f3', e0, e1, e2, hB'⟩ := push_facts hown hgrow (M := M) (past_lt aM _) (past_cell aM m3 _) (past_frozen aM f3 _); clear hown hgrow)
    all_goals
      have j3' := (hB'.cell (p := ⟨I, 3, none⟩) (past_lt aI _)).trans ((World.cell?_alloc_past _ _ _ aI).trans j3)
      have j4' := (hB'.cell (p := ⟨I, 4, none⟩) (past_lt aI _)).trans ((World.cell?_alloc_past _ _ _ aI).trans j4)
      go_wp2
      go_ret
      obtain ⟨q0, q1, q2, q3⟩ := after_push (v := .slice (some ⟨g, 0, none⟩) 1 cap) m3' (past_le aM hg) e0 e1 e2
      exact ⟨.inr ⟨by unfold Opn; omega, g, cap, ret_int (by simp [hgr]), q0, q1, by simpa [hgr] using q2, q3⟩, below_push hB aM (by omega) hB' _⟩
  · have hgr : gr = false := by assumption
    go_region_law (refine step_append_grows rfl (.tmp 83) (.tmp 90) 70 rfl 78 i0 (.agg #[.int .i64 0, .int .i64 0, .int .i64 0]) 3 24 Try.underlying70 hi hz0 hz1 hz2 rfl (by decide) none 0 0 [] (by simp [Act.eval]) (fun _ => ⟨rfl, rfl⟩) rfl (by intro b hb; cases hb) ⟨wc.heap.size, 0, none⟩ 1 1 [.int .i64 (-1), .int .i64 x, .int .i64 ps] (by simp [Act.eval]) rfl (three_cells _ _ _ _) (three_one _ _ _) (by omega) (by unfold maxLen; omega) (by omega) ?_; intro v' w' hown hgrow; obtain ⟨g, cap, rfl, hg, m3', f3', e0, e1, e2, hB'⟩ := push_facts hown hgrow (M := M) (past_lt aM _) (past_cell aM m3 _) (past_frozen aM f3 _); clear hown hgrow)
    all_goals
      have j3' := (hB'.cell (p := ⟨I, 3, none⟩) (past_lt aI _)).trans ((World.cell?_alloc_past _ _ _ aI).trans j3)
      have j4' := (hB'.cell (p := ⟨I, 4, none⟩) (past_lt aI _)).trans ((World.cell?_alloc_past _ _ _ aI).trans j4)
      go_wp2
      go_ret
      obtain ⟨q0, q1, q2, q3⟩ := after_push (v := .slice (some ⟨g, 0, none⟩) 1 cap) m3' (past_le aM hg) e0 e1 e2
      exact ⟨.inr ⟨by unfold Opn; omega, g, cap, ret_int (by simp [hgr]), q0, q1, by simpa [hgr] using q2, q3⟩, below_push hB aM (by omega) hB' _⟩
end Go.Proofs.Qxb6001165a
