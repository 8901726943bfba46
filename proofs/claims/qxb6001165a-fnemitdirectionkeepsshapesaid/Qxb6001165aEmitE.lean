/-
  emit: stores into an instruction that stands; repeats.
-/
import Derived.Test.Qxb6001165aEmitD
namespace Go.Proofs.Qxb6001165a
open Go.RowKit

theorem Prg.drew {w0 F w : World} {P : Nat} {ops : List Nat} {nl nk nb : Nat} (h : Prg w0 F w P ops nl nk nb) : Prg w0 F w.drew P ops nl nk nb := by
  obtain ⟨ai, al, ak, ab, ci, cl, ck, cb, xs, xl, xk, xb, h1, h2, h3, h4, h5, h6, h7, h8, h9⟩ := h
  exact ⟨ai, al, ak, ab, ci, cl, ck, cb, xs, xl, xk, xb, h1, h2, h3.drew, h4.drew, h5.drew, h6.drew, h7, h8.drew, h9⟩
/-- The row of the instructions. -/
theorem Prg.row {w0 F w : World} {P : Nat} {ops : List Nat} {nl nk nb : Nat} (h : Prg w0 F w P ops nl nk nb) (hl : 0 < ops.length) :
    ∃ g c cur, w.cell? ⟨P, 0, none⟩ = some (.slice (some ⟨g, 0, none⟩) ops.length c) ∧ w.heap[g]? = some (.cells cur 63 (0, 0)) ∧ P + 2 ≤ g ∧ ops.length * 6 ≤ cur.size := by
  obtain ⟨ai, al, ak, ab, ci, cl, ck, cb, xs, xl, xk, xb, h1, h2, h3, h4, h5, h6, h7, h8, h9⟩ := h
  rcases h3.2 with ⟨_, h'⟩ | ⟨g, cap, cur, h', hb, hg, hn, hm, hs, ht⟩
  · omega
  · simp only [Value.slice.injEq, true_and] at h'
    obtain ⟨rfl, rfl⟩ := h'
    exact ⟨g, ci, cur, row_cell h1 rfl, hg, hb, by rw [hs]; exact Nat.mul_le_mul_right _ hn⟩
/-- A store into the x or y of an instruction, in the row at hand or in an elder one. -/
theorem Prg.put {w0 F w : World} {P : Nat} {ops : List Nat} {nl nk nb : Nat} (h : Prg w0 F w P ops nl nk nb) {g : Nat} {cur : Array Value} (hg : w.heap[g]? = some (.cells cur 63 (0, 0))) (hgP : P + 2 ≤ g) (i k : Nat) (hk : k = 3 ∨ k = 4) (n : Int) :
    Prg w0 F (w.setCell ⟨g, 6 * i + k, none⟩ (.int .i64 n)) P ops nl nk nb := by
  obtain ⟨ai, al, ak, ab, ci, cl, ck, cb, xs, xl, xk, xb, h1, h2, h3, h4, h5, h6, h7, h8, h9⟩ := h
  have hgr : w.grownBy (w.setCell ⟨g, 6 * i + k, none⟩ (.int .i64 n)) (some g) := ⟨rfl, rfl, rfl, by simp, fun j _ hj => Below.heap_setCell _ _ _ j (fun e => hj (by simp [e]))⟩
  have ne : ∀ {e s m : Nat} {v : Value} {ys : List Value}, w.ownsRow (P + 2) e s v m ys → e ≠ 63 → (v.ownBlock = none ∨ v.ownBlock ≠ some g) := fun hr he => .inr fun e1 => by
    obtain ⟨c1, q1, _⟩ := row_block hr e1
    rw [hg] at q1
    simp at q1
    exact he q1.2.symm
  have q1 : (w.setCell ⟨g, 6 * i + k, none⟩ (.int .i64 n)).heap[P]? = _ := (Below.heap_setCell w ⟨g, 6 * i + k, none⟩ _ P (by show P ≠ g; omega)).trans h1
  have q2 : (w.setCell ⟨g, 6 * i + k, none⟩ (.int .i64 n)).heap[P + 1]? = _ := (Below.heap_setCell w ⟨g, 6 * i + k, none⟩ _ (P + 1) (by show P + 1 ≠ g; omega)).trans h2
  have q8 : Below P w0 (w.setCell ⟨g, 6 * i + k, none⟩ (.int .i64 n)) := h8.setCell (p := ⟨g, 6 * i + k, none⟩) (by show P ≤ g; omega) _
  have q9 : Keep F (w.setCell ⟨g, 6 * i + k, none⟩ (.int .i64 n)) := h9.set hg (by decide) _ _
  by_cases e : ai = some ⟨g, 0, none⟩
  · subst e
    exact ⟨some ⟨g, 0, none⟩, al, ak, ab, ci, cl, ck, cb, _, xl, xk, xb, q1, q2, (h3.stored (6 * i + k) (.int .i64 n)).1, h4.kept hgr (ne h4 (by decide)), h5.kept hgr (ne h5 (by decide)), h6.kept hgr (ne h6 (by decide)), h7.set i k hk n, q8, q9⟩
  · refine ⟨ai, al, ak, ab, ci, cl, ck, cb, xs, xl, xk, xb, q1, q2, h3.kept hgr ?_, h4.kept hgr (ne h4 (by decide)), h5.kept hgr (ne h5 (by decide)), h6.kept hgr (ne h6 (by decide)), h7, q8, q9⟩
    rcases h3.2 with ⟨h', _⟩ | ⟨g', cap, cur', h', _⟩
    · rw [h']; exact .inl rfl
    · simp only [Value.slice.injEq, true_and] at h'
      obtain ⟨rfl, rfl⟩ := h'
      refine .inr fun e1 => e ?_
      simp [Value.ownBlock] at e1
      rw [e1]
theorem put_cell {w : World} {g : Nat} {cur : Array Value} (hg : w.heap[g]? = some (.cells cur 63 (0, 0))) {j : Nat} (hj : j < cur.size) : ∃ u, w.cell? ⟨g, j, none⟩ = some u ∧ w.frozen? ⟨g, j, none⟩ = false :=
  ⟨cur[j], row_cell hg (by simp [hj]), row_frozen hg⟩

set_option maxRecDepth 4000 in
set_option maxHeartbeats 1000000 in
theorem emit_40 (w0 F w : World) (P a : Nat) (ops : List Nat) (nl nk nb : Nat) (back : Bool) (sv : Value) (sb : Nat) (mn : Int) (gr : Bool) (g gs : Int) (ng : Bool) (hP : w0.heap.size = P) (ha : w0.heap[a]? = some (.cells (NodeCells 4 sv sb mn 0 gr g gs ng) 81 (0, 0)))
    (hp : Prg w0 F w P ops nl nk nb) :
    Calls Try.prog 30 #[.pointer (some ⟨P, 0, none⟩), .pointer (some ⟨a, 0, none⟩), .bool back, .pointer (some ⟨P + 1, 0, none⟩)] w fun e w' => EmitEnd w0 F P ops nl nk nb vz e w' := by
  have hn := hp.node hP ha
  have c0 : w.cell? ⟨a, 0, none⟩ = some (.int .u8 4) := row_cell hn rfl
  have c4 : w.cell? ⟨a, 4, none⟩ = some (.int .i64 0) := row_cell hn rfl
  have HP : Hid (Prg w0 F w P ops nl nk nb) := hp
  clear hp hn ha
  go_enter Try.func30, Try.ntmps30
  go_wp2
  go_end0
  exact ⟨rfl, [], by rw [List.append_nil]; exact HP.out, Cnt.nil⟩
end Go.Proofs.Qxb6001165a
