/-
  (*program).add.
-/
import Derived.Test.Qxb6001165aPrg
namespace Go.Proofs.Qxb6001165a
open Go.RowKit

theorem oneCell_ins (o : Nat) (b : Bool) (n x y : Int) (sa : Option Addr) (sn sc : Nat) : ∀ u ∈ [Value.int .u8 o, .bool b, .int .i64 n, .int .i64 x, .int .i64 y, .slice sa sn sc], u.oneCell' = true := by
  intro u hu
  simp at hu
  rcases hu with rfl | rfl | rfl | rfl | rfl | rfl <;> rfl
theorem lit_cells {w : World} {g : Nat} {cs : Array Value} {t : TypeId} {fz : Nat × Nat} (h : w.heap[g]? = some (.cells cs t fz)) : ∀ j u, cs.toList[j]? = some u → w.cell? ((⟨g, 0, none⟩ : Addr).add j) = some u := by
  intro j u hu
  rw [Addr.add_lit, Nat.zero_add]
  exact row_cell h (by simpa using hu)

/-- What the walk of an append onto insts leaves. -/
theorem Prg.added {w0 F w w1 : World} {P : Nat} {ops : List Nat} {nl nk nb : Nat} {ai al ak ab : Option Addr} {ci cl ck cb g cap : Nat} {xs xl xk xb : List Value}
    (h1 : w.heap[P]? = some (PrgObj ai al ak ops.length ci nl cl nk ck)) (h2 : w.heap[P + 1]? = some (.cells #[.slice ab nb cb] 39 (0, 0)))
    (h3 : w.ownsRow (P + 2) 63 6 (.slice ai ops.length ci) ops.length xs) (h4 : w.ownsRow (P + 2) 67 5 (.slice al nl cl) nl xl) (h5 : w.ownsRow (P + 2) 84 2 (.slice ak nk ck) nk xk) (h6 : w.ownsRow (P + 2) 25 1 (.slice ab nb cb) nb xb)
    (h7 : Ins w0 xs ops) (h8 : Below P w0 w) (h9 : Keep F w) (o : Nat) (ho : o ≤ 12) (b : Bool) (n x y : Int) (sa : Option Addr) (sn sc : Nat) (hs : SetOk w0 sa sn sc)
    (ho1 : w1.ownsRow (P + 2) 63 6 (.slice (some ⟨g, 0, none⟩) (ops.length + 1) cap) (ops.length + 1) (xs ++ [.int .u8 o, .bool b, .int .i64 n, .int .i64 x, .int .i64 y, .slice sa sn sc]))
    (ha : Appended w w1 (.slice ai ops.length ci) (.slice (some ⟨g, 0, none⟩) (ops.length + 1) cap)) :
    Prg w0 F (w1.setCell ⟨P, 0, none⟩ (.slice (some ⟨g, 0, none⟩) (ops.length + 1) cap)) P (ops ++ [o]) nl nk nb := by
  have e : (ops ++ [o]).length = ops.length + 1 := by simp
  have q1 := block_stays h1 (by omega) h3 ha
  have q2 := block_stays h2 (by omega) h3 ha
  refine ⟨some ⟨g, 0, none⟩, al, ak, ab, cap, cl, ck, cb, _, xl, xk, xb, ?_, ?_, ?_, ?_, ?_, ?_, h7.snoc h3.1 o ho b n x y sa sn sc hs, ?_, (h9.app h3 (by decide) ha).set q1 (by decide) _ _⟩
  · rw [e]; exact heap_setCell_same w1 P 0 _ 56 _ q1
  · rw [Below.heap_setCell _ _ _ _ (by simp)]; exact q2
  · rw [e]; exact ownsRow_setCell_below ho1 (by simp) _
  · exact ownsRow_setCell_below (row_other h4 h3 (by decide) ha) (by simp) _
  · exact ownsRow_setCell_below (row_other h5 h3 (by decide) ha) (by simp) _
  · exact ownsRow_setCell_below (row_other h6 h3 (by decide) ha) (by simp) _
  · exact (below_app h8 (by have := heap_lt h1; omega) (by omega) h3 ha).setCell (p := ⟨P, 0, none⟩) (Nat.le_refl _) _

/-- The elder row of insts is still there. -/
def Stale (w w' : World) (P n : Nat) : Prop := ∀ g m c, w.cell? ⟨P, 0, none⟩ = some (.slice (some ⟨g, 0, none⟩) m c) → ∃ cur, w'.heap[g]? = some (.cells cur 63 (0, 0)) ∧ P + 2 ≤ g ∧ n * 6 ≤ cur.size

set_option maxRecDepth 4000 in
set_option maxHeartbeats 1000000 in
theorem add_any (w0 F w : World) (P : Nat) (ops : List Nat) (nl nk nb o : Nat) (b : Bool) (n x y : Int) (sa : Option Addr) (sn sc : Nat) (h : Prg w0 F w P ops nl nk nb) (ho : o ≤ 12) (hs : SetOk w0 sa sn sc) (hl : ops.length ≤ 2000000) :
    Calls Try.prog 33 #[.pointer (some ⟨P, 0, none⟩), .agg #[.int .u8 o, .bool b, .int .i64 n, .int .i64 x, .int .i64 y, .slice sa sn sc]] w fun e w' => e = .returned (.int .i64 ops.length) ∧ Prg w0 F w' P (ops ++ [o]) nl nk nb ∧ Stale w w' P ops.length := by
  obtain ⟨ai, al, ak, ab, ci, cl, ck, cb, xs, xl, xk, xb, h1, h2, h3, h4, h5, h6, h7, h8, h9⟩ := h
  have c0 : w.cell? ⟨P, 0, none⟩ = some (.slice ai ops.length ci) := row_cell h1 rfl
  have f0 : w.frozen? ⟨P, 0, none⟩ = false := row_frozen h1
  have hP : P < w.heap.size := heap_lt h1
  obtain ⟨i0, hi, hz0, hz1, hz2⟩ := info_parts Prg.info63
  let W := ((w.alloc (.cells #[.int .u8 o, .bool b, .int .i64 n, .int .i64 x, .int .i64 y, .slice sa sn sc] 63)).alloc (.cells #[.int .u8 o, .bool b, .int .i64 n, .int .i64 x, .int .i64 y, .slice sa sn sc] 63)).drew
  have hWb : Below w.heap.size w W := (((Below.refl _ w).alloc (Nat.le_refl _) _).alloc (by show w.heap.size ≤ (w.heap.push _).size; simp) _).drew
  have HW : Hid (W.ownsRow (P + 2) 63 6 (.slice ai ops.length ci) ops.length xs) := ((h3.alloc _).alloc _).drew
  have HL : Hid (∀ j u, [Value.int .u8 o, .bool b, .int .i64 n, .int .i64 x, .int .i64 y, .slice sa sn sc][j]? = some u → W.cell? ((⟨w.heap.size + 1, 0, none⟩ : Addr).add j) = some u) := lit_cells (heap_top2 w _ _)
  have HS : Hid (P + 2 ≤ W.heap.size) := Nat.le_trans (heap_lt h2) hWb.size
  have HH : Hid (∀ g cap w1, w1.ownsRow (P + 2) 63 6 (.slice (some ⟨g, 0, none⟩) (ops.length + 1) cap) (ops.length + 1) (xs ++ [.int .u8 o, .bool b, .int .i64 n, .int .i64 x, .int .i64 y, .slice sa sn sc]) → Appended W w1 (.slice ai ops.length ci) (.slice (some ⟨g, 0, none⟩) (ops.length + 1) cap) →
      w1.cell? ⟨P, 0, none⟩ = some (.slice ai ops.length ci) ∧ w1.frozen? ⟨P, 0, none⟩ = false ∧ Hid (Prg w0 F (w1.setCell ⟨P, 0, none⟩ (.slice (some ⟨g, 0, none⟩) (ops.length + 1) cap)) P (ops ++ [o]) nl nk nb ∧ Stale w (w1.setCell ⟨P, 0, none⟩ (.slice (some ⟨g, 0, none⟩) (ops.length + 1) cap)) P ops.length)) := by
    intro g cap w1 ho1 ha
    have q1 : W.heap[P]? = _ := (hWb.block P hP).trans h1
    have q2 : W.heap[P + 1]? = _ := (hWb.block (P + 1) (heap_lt h2)).trans h2
    have b1 := block_stays q1 (by omega) HW.out ha
    refine ⟨row_cell b1 rfl, row_frozen b1, Prg.added q1 q2 HW.out ((h4.alloc _).alloc _).drew ((h5.alloc _).alloc _).drew ((h6.alloc _).alloc _).drew h7 (h8.trans (hWb.mono (by omega))) (h9.below hWb) o ho b n x y sa sn sc hs ho1 ha, ?_⟩
    intro g' m c hc
    rw [c0] at hc
    simp at hc
    obtain ⟨rfl, _, rfl⟩ := hc
    obtain ⟨cur, r1, r2, r3⟩ := row_block HW.out (g := g') rfl
    rw [Below.heap_setCell _ _ _ _ (by simp; omega)]
    rcases ha with ⟨e1, hg⟩ | ⟨_, hg⟩
    · obtain ⟨cur', r4, r5, r6⟩ := row_block ho1 (g := g) rfl
      simp [Value.ownBlock] at e1
      subst e1
      exact ⟨cur', r4, r5, by omega⟩
    · exact ⟨cur, (hg.block g' (heap_lt r1) (by simp)).trans r1, r2, r3⟩
  clear h1 h2 h3 h4 h5 h6 h7 h8 h9 hWb hs
  go_enter Try.func33, Try.ntmps33
  go_wp2
  go_region_law (refine step_app rfl (.tmp 9) (.tmp 11) 52 rfl (P + 2) 63 i0 (.agg #[.int .u8 0, .bool false, .int .i64 0, .int .i64 0, .int .i64 0, .slice none 0 0]) 6 56 Try.underlying52 hi hz0 hz1 hz2 rfl (by decide) (.slice ai ops.length ci) ops.length xs rfl HW.out ⟨w.heap.size + 1, 0, none⟩ 1 [.int .u8 o, .bool b, .int .i64 n, .int .i64 x, .int .i64 y, .slice sa sn sc] rfl rfl HL.out (oneCell_ins _ _ _ _ _ _ _ _) (by unfold maxLen; omega) (by omega) HS.out ?_; intro g cap w1 ho1 ha; have HO := HH.out g cap w1 ho1 ha; obtain ⟨p0, pf, HO⟩ := HO; clear ho1 ha)
  all_goals (
    go_wp2
    go_ret
    exact ⟨rfl, HO.out⟩)
end Go.Proofs.Qxb6001165a
