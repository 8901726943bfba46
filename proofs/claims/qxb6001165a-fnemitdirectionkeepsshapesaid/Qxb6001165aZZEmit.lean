/-
  ZZEmit; the counting arrays of the law.
-/
import Derived.Test.Qxb6001165aEmitAll
import Derived.Test.Qxb6001165aReads
namespace Go.Proofs.Qxb6001165a
open Go.RowKit

abbrev PrgNew : Obj := .cells #[.slice none 0 0, .slice none 0 0, .slice none 0 0, .int .i64 0, .bool false] 56
abbrev BodNew : Obj := .cells #[.slice none 0 0] 39
theorem Prg.new (w : World) : Prg w w ((w.alloc PrgNew).alloc BodNew) w.heap.size [] 0 0 0 := by
  have hb : Below w.heap.size w ((w.alloc PrgNew).alloc BodNew) := ((Below.refl _ w).alloc (Nat.le_refl _) _).alloc (by show w.heap.size ≤ (w.heap.push _).size; simp) _
  exact ⟨none, none, none, none, 0, 0, 0, 0, [], [], [], [], heap_mid2 w _ _, heap_top2 w _ _, ⟨rfl, .inl ⟨rfl, rfl⟩⟩, ⟨rfl, .inl ⟨rfl, rfl⟩⟩, ⟨rfl, .inl ⟨rfl, rfl⟩⟩, ⟨rfl, .inl ⟨rfl, rfl⟩⟩, fun i o h => by simp at h, hb, (Keep.refl w).below hb⟩

set_option maxRecDepth 4000 in
set_option maxHeartbeats 1000000 in
theorem zzEmit (w : World) (k a : Nat) (b : Bool) (v : Nat → Nat) (back : Bool) (hnd : Nd k w 0 a b v) (hv : 2 * wt v ≤ 2000000) :
    Calls Try.prog 21 #[.pointer (some ⟨a, 0, none⟩), .bool back] w fun e w' => ∃ ops ab cb, e = .returned (.tuple #[.pointer (some ⟨w.heap.size, 0, none⟩), .slice ab (v 14) cb]) ∧ Prg w w w' w.heap.size ops (v 13) (v 14) (v 14) ∧ Cnt ops v := by
  have HN : Hid (Nd k w 0 a b v) := hnd
  clear hnd
  go_enter Try.func21, Try.ntmps21
  go_wp2_with fail
  refine (emit_all w w.heap.size rfl k w ((w.alloc PrgNew).alloc BodNew) a b v [] 0 0 0 back HN.out (Prg.new w) (by simp; omega)).mono ?_
  rintro e w1 ⟨rfl, ops, hp, hc⟩
  rw [List.nil_append, Nat.zero_add, Nat.zero_add] at hp
  have HP : Hid (Prg w w w1 w.heap.size ops (v 13) (v 14) (v 14)) := hp
  have HC : Hid (Cnt ops v) := hc
  obtain ⟨ai, al, ak, ab, ci, cl, ck, cb, xs, xl, xk, xb, -, h2, -⟩ := hp
  have c1 : w1.cell? ⟨w.heap.size + 1, 0, none⟩ = some (.slice ab (v 14) cb) := row_cell h2 rfl
  clear h2 hc
  go_wp2
  go_quiet (fail)
  go_wp2
  go_ret2
  exact ⟨ops, ab, cb, rfl, HP.out.more ⟨rfl, rfl, rfl, Nat.le_refl _, fun _ _ => rfl⟩, HC.out⟩

/-! ### The counts -/
def Cts (ws : World) (A : Nat) (l : List Nat) : Prop := ∃ cur : Array Value, ws.heap[A]? = some (.cells cur 43 (0, 0)) ∧ cur.size = 13 ∧ ∀ j : Nat, j ≤ 12 → cur[j]? = some (.int .i64 (l.count j))
theorem Cts.cell {ws : World} {A : Nat} {l : List Nat} (h : Cts ws A l) {j : Nat} (hj : j ≤ 12) : ws.cell? ⟨A, j, none⟩ = some (.int .i64 (l.count j)) ∧ ws.frozen? ⟨A, j, none⟩ = false := by
  obtain ⟨cur, h1, _, h3⟩ := h
  exact ⟨row_cell h1 (h3 j hj), row_frozen h1⟩
theorem Cts.lt {ws : World} {A : Nat} {l : List Nat} (h : Cts ws A l) : A < ws.heap.size := by
  obtain ⟨cur, h1, _, h3⟩ := h
  exact heap_lt h1
theorem Cts.below {ws ws' : World} {A : Nat} {l : List Nat} (h : Cts ws A l) (hb : Below ws.heap.size ws ws') : Cts ws' A l := by
  obtain ⟨cur, h1, h2, h3⟩ := h
  exact ⟨cur, (hb.block A (heap_lt h1)).trans h1, h2, h3⟩
theorem Cts.other {ws : World} {A A' j : Nat} {l : List Nat} {u : Value} (h : Cts ws A l) (hne : A ≠ A') : Cts (ws.setCell ⟨A', j, none⟩ u) A l := by
  obtain ⟨cur, h1, h2, h3⟩ := h
  exact ⟨cur, (Below.heap_setCell _ _ _ _ hne).trans h1, h2, h3⟩
theorem Cts.bump {ws : World} {A o : Nat} {l : List Nat} (h : Cts ws A l) (ho : o ≤ 12) : Cts (ws.setCell ⟨A, o, none⟩ (.int .i64 ((l.count o : Int) + 1))) A (l ++ [o]) := by
  obtain ⟨cur, h1, h2, h3⟩ := h
  refine ⟨_, heap_setCell_same ws A o _ 43 _ h1, by simp [h2], fun j hj => ?_⟩
  by_cases e : o = j
  · subst e
    have e1 : (l ++ [o]).count o = l.count o + 1 := by simp
    have e2 : o < 13 := by omega
    rw [e1]
    simp [h2, e2]
  · have e2 : (l ++ [o]).count j = l.count j := by rw [List.count_append, List.count_cons_of_ne e]; rfl
    rw [e2, ← h3 j hj]
    simp [e]
end Go.Proofs.Qxb6001165a
