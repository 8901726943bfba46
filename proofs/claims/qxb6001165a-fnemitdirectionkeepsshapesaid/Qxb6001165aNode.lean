/-
  THE DECODER's node: what it starts from, what it leaves; the leaves.
-/
import Derived.Test.Qxb6001165aAnch
namespace Go.Proofs.Qxb6001165a
open Go.RowKit

/-- d, at block D: the tokens' slice, the position, six counts. -/
def DecAt (w : World) (D : Nat) (T : Value) (pos : Nat) : Prop :=
  ∃ q2 q3 q4 q5 q6 q7 : Int, w.heap[D]? = some (.cells #[T, .int .i64 pos, .int .i64 q2, .int .i64 q3, .int .i64 q4, .int .i64 q5, .int .i64 q6, .int .i64 q7] 30 (0, 0))
/-- The tokens: in a block below D. -/
def Toks (w : World) (D : Nat) (T : Value) (tl : Nat) : Prop :=
  (T = .slice none 0 0 ∧ tl = 0) ∨ ∃ tb, T = .slice (some ⟨tb, 0, none⟩) tl tl ∧ tb < D ∧ ∀ i, i < tl → ∃ c : Nat, c < 256 ∧ w.cell? ⟨tb, i, none⟩ = some (.int .u8 c)
/-- What the call leaves. -/
def NodeEnd (w : World) (D : Nat) (T : Value) (tl pos : Nat) (e : Ending) (w' : World) : Prop :=
  ∃ (a k : Nat) (b : Bool) (v : Nat → Nat) (pos' : Nat), e = .returned (.pointer (some ⟨a, 0, none⟩)) ∧ Nd k w' w.heap.size a b v ∧ DecAt w' D T pos' ∧ pos ≤ pos' ∧ pos' ≤ tl ∧ wt v ≤ 10 * (pos' - pos) ∧ w.grownBy w' (some D)

theorem grown_trans {w w1 w2 : World} {D : Nat} (h : w.grownBy w1 (some D)) (h' : w1.grownBy w2 (some D)) : w.grownBy w2 (some D) :=
  ⟨h'.os.trans h.os, h'.tape.trans h.tape, h'.output.trans h.output, Nat.le_trans h.size h'.size, fun k hk hne => (h'.block k (Nat.lt_of_lt_of_le hk h.size) hne).trans (h.block k hk hne)⟩
theorem grown_drewN {w : World} {n D : Nat} : w.grownBy (w.drewN n) (some D) := ⟨rfl, rfl, rfl, Nat.le_refl _, fun _ _ _ => rfl⟩
theorem grown_set {w : World} {D j : Nat} {v : Value} : w.grownBy (w.setCell ⟨D, j, none⟩ v) (some D) :=
  ⟨rfl, rfl, rfl, by simp [World.setCell], fun k _ hne => Below.heap_setCell _ _ _ _ (fun e => hne (by subst e; rfl))⟩
theorem grown_alloc {w : World} {D : Nat} {o : Obj} : w.grownBy (w.alloc o) (some D) := World.grownBy_alloc w o (some D)

theorem Toks.kept {w w' : World} {D tl : Nat} {T : Value} (h : Toks w D T tl) (hg : w.grownBy w' (some D)) : Toks w' D T tl := by
  rcases h with h | ⟨tb, e, hb, hc⟩
  · exact .inl h
  · refine .inr ⟨tb, e, hb, fun i hi => ?_⟩
    obtain ⟨c, c1, c2⟩ := hc i hi
    exact ⟨c, c1, hg.cell c2 (fun e => absurd (Option.some.inj e) (by show tb ≠ D; omega))⟩

theorem heap_top (w : World) (o : Obj) : (w.alloc o).heap[w.heap.size]? = some o := by
  show (w.heap.push o)[w.heap.size]? = _; simp
theorem heap_top2 (w : World) (o1 o2 : Obj) : ((w.alloc o1).alloc o2).heap[w.heap.size + 1]? = some o2 := by
  have h := heap_top (w.alloc o1) o2
  have e : (w.alloc o1).heap.size = w.heap.size + 1 := by show (w.heap.push o1).size = _; simp
  rw [e] at h; exact h

theorem heap_mid2 (w : World) (o1 o2 : Obj) : ((w.alloc o1).alloc o2).heap[w.heap.size]? = some o1 := by
  rw [Below.heap_alloc _ _ _ (by show w.heap.size < (w.heap.push o1).size; simp)]
  exact heap_top w o1

/-- A node without subs. -/
theorem leaf_nd (w : World) (kd mx : Int) (lo hi mn : Int) (gr : Bool) (g gs : Int) (ng : Bool) (h0 : 0 ≤ kd) (h1 : kd ≤ 11) (hk : ¬ (kd = 2 ∨ kd = 3 ∨ kd = 4 ∨ kd = 5 ∨ kd = 6)) :
    Nd 1 ((w.alloc (SetObj lo hi)).alloc (.cells (NodeCells kd (.slice none 0 0) w.heap.size mn mx gr g gs ng) 81)) w.heap.size (w.heap.size + 1) (anchOf kd []) (vecOf kd mx []) := by
  refine ⟨kd, mx, none, 0, 0, [], w.heap.size, mn, gr, g, gs, ng, by omega, ?_, rfl, .inl rfl, fun c hc => absurd hc (by simp), h0, h1, by omega, fun h => absurd h hk, rfl, rfl, Nat.le_refl _, lo, hi, heap_mid2 w _ _⟩
  exact heap_top2 w _ _

theorem dec_alloc2 {w : World} {D pos : Nat} {T : Value} {o1 o2 : Obj} (h : DecAt w D T pos) : DecAt ((w.alloc o1).alloc o2) D T pos := by
  obtain ⟨q2, q3, q4, q5, q6, q7, hd⟩ := h
  have hl := heap_lt hd
  refine ⟨q2, q3, q4, q5, q6, q7, ?_⟩
  rw [Below.heap_alloc _ _ _ (by show D < (w.heap.push o1).size; simp; omega), Below.heap_alloc _ _ _ hl]
  exact hd

set_option maxRecDepth 4000 in
set_option maxHeartbeats 1000000 in
/-- No token is left. -/
theorem node_end (D : Nat) (T : Value) (tl pos : Nat) (live : Bool) (w : World) (hd : DecAt w D T pos) (ht : Toks w D T tl) (hl : tl ≤ 65536) (hp : pos = tl) :
    Calls Try.prog 27 #[.pointer (some ⟨D, 0, none⟩), .bool live] w fun e w' => NodeEnd w D T tl pos e w' := by
  have HD : Hid (DecAt w D T pos) := hd
  obtain ⟨q2, q3, q4, q5, q6, q7, hd⟩ := hd
  have c0 : w.cell? ⟨D, 0, none⟩ = some T := row_cell hd rfl
  have c1 : w.cell? ⟨D, 1, none⟩ = some (.int .i64 pos) := row_cell hd rfl
  obtain ⟨ao, rfl⟩ : ∃ ao, T = .slice ao tl tl := by
    rcases ht with ⟨rfl, rfl⟩ | ⟨tb, rfl, _⟩
    · exact ⟨_, rfl⟩
    · exact ⟨_, rfl⟩
  clear hd ht
  have hge : (tl : Int) ≤ (pos : Int) := by omega
  go_enter Try.func27, Try.ntmps27
  go_wp2
  go_quiet (fail)
  go_wp2_with (go_at_call 18; refine (leaf_any _ _).mono ?_; rintro e w' ⟨rfl, rfl⟩)
  go_ret
  exact ⟨w.heap.size + 1, 1, _, _, pos, rfl, leaf_nd (w.drewN nq) 0 0 0 0 0 false 0 0 false (by omega) (by omega) (by omega), dec_alloc2 (w := w.drewN nq) HD.out, Nat.le_refl _, by omega, Nat.zero_le _, grown_trans grown_drewN (grown_trans grown_alloc grown_alloc)⟩
end Go.Proofs.Qxb6001165a
