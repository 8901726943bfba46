/-
  The readers of a program: ZZInstCount, ZZLoopCount, ZZLookCount, ZZInst.
-/
import Derived.Test.Qxb6001165aEmitG
namespace Go.Proofs.Qxb6001165a
open Go.RowKit

set_option maxRecDepth 4000 in
set_option maxHeartbeats 400000 in
theorem instCount (w0 F w : World) (P : Nat) (ops : List Nat) (nl nk nb : Nat) (hp : Prg w0 F w P ops nl nk nb) : Calls Try.prog 22 #[.pointer (some ⟨P, 0, none⟩)] w fun e w' => e = .returned (.int .i64 ops.length) ∧ w = w' := by
  obtain ⟨ai, al, ak, ab, ci, cl, ck, cb, xs, xl, xk, xb, h1, -⟩ := hp
  have c0 : w.cell? ⟨P, 0, none⟩ = some (.slice ai ops.length ci) := row_cell h1 rfl
  clear h1
  go_enter Try.func22, Try.ntmps22
  go_wp2
  go_ret
  exact ⟨rfl, rfl⟩
set_option maxRecDepth 4000 in
set_option maxHeartbeats 400000 in
theorem loopCount (w0 F w : World) (P : Nat) (ops : List Nat) (nl nk nb : Nat) (hp : Prg w0 F w P ops nl nk nb) : Calls Try.prog 23 #[.pointer (some ⟨P, 0, none⟩)] w fun e w' => e = .returned (.int .i64 nl) ∧ w = w' := by
  obtain ⟨ai, al, ak, ab, ci, cl, ck, cb, xs, xl, xk, xb, h1, -⟩ := hp
  have c0 : w.cell? ⟨P, 1, none⟩ = some (.slice al nl cl) := row_cell h1 rfl
  clear h1
  go_enter Try.func23, Try.ntmps23
  go_wp2
  go_ret
  exact ⟨rfl, rfl⟩
set_option maxRecDepth 4000 in
set_option maxHeartbeats 400000 in
theorem lookCount (w0 F w : World) (P : Nat) (ops : List Nat) (nl nk nb : Nat) (hp : Prg w0 F w P ops nl nk nb) : Calls Try.prog 24 #[.pointer (some ⟨P, 0, none⟩)] w fun e w' => e = .returned (.int .i64 nk) ∧ w = w' := by
  obtain ⟨ai, al, ak, ab, ci, cl, ck, cb, xs, xl, xk, xb, h1, -⟩ := hp
  have c0 : w.cell? ⟨P, 2, none⟩ = some (.slice ak nk ck) := row_cell h1 rfl
  clear h1
  go_enter Try.func24, Try.ntmps24
  go_wp2
  go_ret
  exact ⟨rfl, rfl⟩

/-- The six cells of an instruction. -/
theorem Prg.inst {w0 F w : World} {P : Nat} {ops : List Nat} {nl nk nb i o : Nat} (hp : Prg w0 F w P ops nl nk nb) (hP : w0.heap.size = P) (hi : ops[i]? = some o) :
    ∃ (g c : Nat) (b : Bool) (n x y : Int) (sa : Option Addr) (sn sc : Nat), o ≤ 12 ∧ w.cell? ⟨P, 0, none⟩ = some (.slice (some ⟨g, 0, none⟩) ops.length c) ∧ w.cell? ⟨g, i * 6, none⟩ = some (.int .u8 o) ∧ w.cell? ⟨g, i * 6 + 1, none⟩ = some (.bool b) ∧ w.cell? ⟨g, i * 6 + 2, none⟩ = some (.int .i64 n) ∧
      w.cell? ⟨g, i * 6 + 3, none⟩ = some (.int .i64 x) ∧ w.cell? ⟨g, i * 6 + 4, none⟩ = some (.int .i64 y) ∧ w.cell? ⟨g, i * 6 + 5, none⟩ = some (.slice sa sn sc) ∧
      ((sa = none ∧ sn = 0 ∧ sc = 0) ∨ ∃ sb lo hi, sa = some ⟨sb, 0, none⟩ ∧ sn = 1 ∧ sc = 1 ∧ w.heap[sb]? = some (SetObj lo hi)) := by
  have hl : 0 < ops.length := by have := (List.getElem?_eq_some_iff.1 hi).1; omega
  obtain ⟨ai, al, ak, ab, ci, cl, ck, cb, xs, xl, xk, xb, h1, h2, h3, h4, h5, h6, h7, h8, h9⟩ := hp
  obtain ⟨k0, k1, ⟨b, k2⟩, ⟨n, k3⟩, ⟨x, k4⟩, ⟨y, k5⟩, sa, sn, sc, k6, k7⟩ := h7 i o hi
  rcases h3.2 with ⟨_, h'⟩ | ⟨g, cap, cur, h', -⟩
  · omega
  · simp only [Value.slice.injEq, true_and] at h'
    obtain ⟨rfl, rfl⟩ := h'
    have hc := h3.cells (g := g) rfl
    have key : ∀ j u, xs[6 * i + j]? = some u → w.cell? ⟨g, i * 6 + j, none⟩ = some u := fun j u hu => by
      have := hc _ _ hu
      rw [Addr.add_lit, Nat.zero_add, Nat.mul_comm] at this
      exact this
    refine ⟨g, ci, b, n, x, y, sa, sn, sc, k0, row_cell h1 rfl, key 0 _ k1, key 1 _ k2, key 2 _ k3, key 3 _ k4, key 4 _ k5, key 5 _ k6, ?_⟩
    rcases k7 with k7 | ⟨sb, lo, hi', e1, e2, e3, e4⟩
    · exact .inl k7
    · exact .inr ⟨sb, lo, hi', e1, e2, e3, (h8.block sb (by have := heap_lt e4; omega)).trans e4⟩

set_option maxRecDepth 4000 in
set_option maxHeartbeats 1000000 in
theorem instAt (w0 F w : World) (P : Nat) (ops : List Nat) (nl nk nb i o : Nat) (hp : Prg w0 F w P ops nl nk nb) (hP : w0.heap.size = P) (hi : ops[i]? = some o) :
    Calls Try.prog 25 #[.pointer (some ⟨P, 0, none⟩), .int .i64 i] w fun e w' => (∃ u1 u2 u3 u4 u5 u6 u7, e = .returned (.tuple #[.int .u8 o, u1, u2, u3, u4, u5, u6, u7])) ∧ Below w.heap.size w w' := by
  obtain ⟨g, c, b, n, x, y, sa, sn, sc, k0, p0, k1, k2, k3, k4, k5, k6, k7⟩ := hp.inst hP hi
  have hli : i < ops.length := (List.getElem?_eq_some_iff.1 hi).1
  obtain ⟨L, hL⟩ : ∃ L, L = ops.length := ⟨_, rfl⟩
  rw [← hL] at p0 hli
  have hiI : (i : Int) < (L : Int) := by omega
  clear hp hi hL
  rcases k7 with ⟨rfl, rfl, rfl⟩ | ⟨sb, lo, hi', rfl, rfl, rfl, k7⟩
  · go_enter Try.func25, Try.ntmps25
    go_wp2
    exact bodyPost_ret (v := .tuple #[.int .u8 o, .bool b, .int .i64 n, .int .i64 x, .int .i64 y, .int .i64 0, .int .i32 0, .int .i32 0]) (by simp [results, Try.results25, go_sem]) rfl ⟨⟨_, _, _, _, _, _, _, rfl⟩, (Below.refl _ _).alloc (Nat.le_refl _) _⟩
  · have s0 : w.cell? ⟨sb, 0, none⟩ = some (.int .i32 lo) := row_cell k7 rfl
    have s1 : w.cell? ⟨sb, 1, none⟩ = some (.int .i32 hi') := row_cell k7 rfl
    have hsb : sb < w.heap.size := heap_lt k7
    clear k7
    go_enter Try.func25, Try.ntmps25
    go_wp2
    exact bodyPost_ret (v := .tuple #[.int .u8 o, .bool b, .int .i64 n, .int .i64 x, .int .i64 y, .int .i64 1, .int .i32 lo, .int .i32 hi']) (by simp [results, Try.results25, go_sem]) rfl ⟨⟨_, _, _, _, _, _, _, rfl⟩, (Below.refl _ _).alloc (Nat.le_refl _) _⟩
end Go.Proofs.Qxb6001165a
