/-
  emit: alternations: the jumps' row, the weights.
-/
import Derived.Test.Qxb6001165aEmitE
namespace Go.Proofs.Qxb6001165a
open Go.RowKit

theorem Prg.info3 : (Try.prog.info? 3).map (fun i => (i.zero, i.size, i.bytes)) = some (some (.int .i64 0), 1, 8) := by kernel_rfl

/-- The jumps' row: m numbers below L. -/
def Jmp (w wr : World) (J : Value) (m L : Nat) : Prop := ∃ xs, wr.ownsRow w.heap.size 3 1 J m xs ∧ ∀ (j : Nat) (u : Value), xs[j]? = some u → ∃ q : Nat, u = .int .i64 q ∧ q < L
theorem Jmp.nil (w wr : World) (L : Nat) : Jmp w wr (.slice none 0 0) 0 L := ⟨[], ⟨rfl, .inl ⟨rfl, rfl⟩⟩, fun j u h => by simp at h⟩
theorem Jmp.keep {w wr w2 : World} {J : Value} {m L : Nat} (h : Jmp w wr J m L) (k : Keep wr w2) : Jmp w w2 J m L := by
  obtain ⟨xs, h1, h2⟩ := h
  refine ⟨xs, ⟨h1.1, ?_⟩, h2⟩
  rcases h1.2 with h' | ⟨g, cap, cur, e, hb, hg, r⟩
  · exact .inl h'
  · exact .inr ⟨g, cap, cur, e, hb, k.2 g cur hg, r⟩
theorem Jmp.mono {w wr : World} {J : Value} {m L L' : Nat} (h : Jmp w wr J m L) (hl : L ≤ L') : Jmp w wr J m L' := by
  obtain ⟨xs, h1, h2⟩ := h
  exact ⟨xs, h1, fun j u hu => by obtain ⟨q, e, hq⟩ := h2 j u hu; exact ⟨q, e, by omega⟩⟩
theorem Jmp.shape {w wr : World} {J : Value} {m L : Nat} (h : Jmp w wr J m L) : ∃ ao c, J = .slice ao m c := by
  obtain ⟨xs, h1, h2⟩ := h
  rcases h1.2 with ⟨rfl, rfl⟩ | ⟨g, cap, cur, rfl, _⟩
  · exact ⟨_, _, rfl⟩
  · exact ⟨_, _, rfl⟩
theorem Jmp.get {w wr : World} {ao : Option Addr} {m c L q : Nat} (h : Jmp w wr (.slice ao m c) m L) (hq : q < m) : ∃ G x : Nat, ao = some ⟨G, 0, none⟩ ∧ x < L ∧ wr.cell? ⟨G, q, none⟩ = some (.int .i64 x) := by
  obtain ⟨xs, h1, h2⟩ := h
  have hl := h1.1
  obtain ⟨u, hu⟩ : ∃ u, xs[q]? = some u := ⟨_, List.getElem?_eq_getElem (by omega)⟩
  obtain ⟨x, rfl, hx⟩ := h2 q u hu
  rcases h1.2 with ⟨_, h0⟩ | ⟨g, cap, cur, e, _⟩
  · omega
  · simp only [Value.slice.injEq, true_and] at e
    obtain ⟨rfl, rfl⟩ := e
    have hc := h1.cells (g := g) rfl q _ hu
    rw [Addr.add_lit, Nat.zero_add] at hc
    exact ⟨g, x, rfl, hx, hc⟩

theorem Prg.more {w0 F w W : World} {P : Nat} {ops : List Nat} {nl nk nb : Nat} (h : Prg w0 F w P ops nl nk nb) (hW : Below w.heap.size w W) : Prg w0 F W P ops nl nk nb := by
  obtain ⟨ai, al, ak, ab, ci, cl, ck, cb, xs, xl, xk, xb, h1, h2, h3, h4, h5, h6, h7, h8, h9⟩ := h
  have hg : w.grownBy W none := ⟨hW.os, hW.tape, hW.output, hW.size, fun k hk _ => hW.block k hk⟩
  have nn : ∀ v : Value, v.ownBlock = none ∨ v.ownBlock ≠ none := fun v => by cases v.ownBlock <;> simp
  exact ⟨ai, al, ak, ab, ci, cl, ck, cb, xs, xl, xk, xb, (hW.block P (heap_lt h1)).trans h1, (hW.block (P + 1) (heap_lt h2)).trans h2, h3.kept hg (nn _), h4.kept hg (nn _), h5.kept hg (nn _), h6.kept hg (nn _), h7, h8.trans (hW.mono (by have := heap_lt h1; omega)), h9.below hW⟩
theorem Prg.jump {w0 w wr w2 : World} {P : Nat} {ops : List Nat} {nl nk nb m : Nat} {u u' : Value} {ys : List Value} (h : Prg w0 w wr P ops nl nk nb) (hP2 : P + 2 ≤ w.heap.size) (hr : wr.ownsRow w.heap.size 3 1 u m ys) (ha : Appended wr w2 u u') : Prg w0 w w2 P ops nl nk nb := by
  obtain ⟨ai, al, ak, ab, ci, cl, ck, cb, xs, xl, xk, xb, h1, h2, h3, h4, h5, h6, h7, h8, h9⟩ := h
  refine ⟨ai, al, ak, ab, ci, cl, ck, cb, xs, xl, xk, xb, block_stays h1 (by omega) hr ha, block_stays h2 (by omega) hr ha, row_other h3 hr (by decide) ha, row_other h4 hr (by decide) ha, row_other h5 hr (by decide) ha, row_other h6 hr (by decide) ha, h7, below_app h8 (by have := heap_lt h1; omega) (by omega) hr ha, Nat.le_trans h9.1 (size_app ha), ?_⟩
  intro g cur hg
  exact block_stays (h9.2 g cur hg) (heap_lt hg) hr ha

/-- What the walk behind 'jumps = append(jumps, ..)' needs of the world behind the literal's block. -/
theorem Jmp.app {w0 w wr : World} {P : Nat} {ops : List Nat} {nl nk nb m L L' x : Nat} {J : Value} (hp : Prg w0 w wr P ops nl nk nb) (hP2 : P + 2 ≤ w.heap.size) (hj : Jmp w wr J m L) (hL : L ≤ L') (hx : x < L') :
    ∃ xs, Hid ((wr.alloc (.cells #[.int .i64 x] 3)).ownsRow w.heap.size 3 1 J m xs) ∧ Hid (w.heap.size ≤ (wr.alloc (.cells #[.int .i64 x] 3)).heap.size) ∧
      Hid (∀ g cap w1, w1.ownsRow w.heap.size 3 1 (.slice (some ⟨g, 0, none⟩) (m + 1) cap) (m + 1) (xs ++ [.int .i64 x]) → Appended (wr.alloc (.cells #[.int .i64 x] 3)) w1 J (.slice (some ⟨g, 0, none⟩) (m + 1) cap) →
        Prg w0 w w1 P ops nl nk nb ∧ Jmp w w1 (.slice (some ⟨g, 0, none⟩) (m + 1) cap) (m + 1) L') := by
  obtain ⟨xs, h1, h2⟩ := hj
  have hW : Below wr.heap.size wr (wr.alloc (.cells #[.int .i64 x] 3)) := (Below.refl _ _).alloc (Nat.le_refl _) _
  refine ⟨xs, h1.alloc _, Nat.le_trans hp.keep.1 hW.size, ?_⟩
  intro g cap w1 ho ha
  refine ⟨(hp.more hW).jump hP2 (h1.alloc _) ha, _, ho, ?_⟩
  intro j u hu
  by_cases hjl : j < xs.length
  · rw [List.getElem?_append_left hjl] at hu
    obtain ⟨q, e, hq⟩ := h2 j u hu
    exact ⟨q, e, by omega⟩
  · rw [List.getElem?_append_right (by omega)] at hu
    cases hz : j - xs.length with
    | zero => rw [hz] at hu; simp at hu; exact ⟨x, hu.symm, hx⟩
    | succ z => rw [hz] at hu; simp at hu

/-! ### The weights -/
def altv (vs : List (Nat → Nat)) (i : Nat) : Nat → Nat := vadd (vsum (vs.take i)) (fun j => i * (ve 1 j + ve 2 j))
theorem wt_twos (i : Nat) : wt (fun j => i * (ve 1 j + ve 2 j)) = 2 * i := by
  simp [wt, ve]
  omega
theorem wt_altv (vs : List (Nat → Nat)) (i : Nat) : wt (altv vs i) = wt (vsum (vs.take i)) + 2 * i := by
  unfold altv
  rw [wt_vadd, wt_twos]
theorem altv_next {vs : List (Nat → Nat)} {i : Nat} {v : Nat → Nat} (h : vs[i]? = some v) (j : Nat) : altv vs i j + (ve 1 j + v j + ve 2 j) = altv vs (i + 1) j := by
  show vsum (vs.take i) j + i * (ve 1 j + ve 2 j) + (ve 1 j + v j + ve 2 j) = vsum (vs.take (i + 1)) j + (i + 1) * (ve 1 j + ve 2 j)
  rw [take_next h, vsum_snoc, Nat.add_mul, Nat.one_mul]
  omega
theorem altv_last {vs : List (Nat → Nat)} {i : Nat} {v : Nat → Nat} (hl : vs.length = i + 1) (h : vs[i]? = some v) (j : Nat) : altv vs i j + v j = vadd (vsum vs) (fun j => (vs.length - 1) * (ve 1 j + ve 2 j)) j := by
  show vsum (vs.take i) j + i * (ve 1 j + ve 2 j) + v j = vsum vs j + (vs.length - 1) * (ve 1 j + ve 2 j)
  have e : vs = vs.take i ++ [v] := by rw [← take_next h, List.take_of_length_le (by omega)]
  rw [hl, Nat.add_sub_cancel]
  conv => rhs; rw [e]
  rw [vsum_snoc]
  omega
theorem wt_part {vs : List (Nat → Nat)} {i : Nat} {v : Nat → Nat} (h : vs[i]? = some v) : wt (vsum (vs.take i)) + wt v ≤ wt (vsum vs) := by
  have h3 := wt_split vs i
  rw [drop_next h] at h3
  have h5 : wt (vsum (v :: vs.drop (i + 1))) = wt v + wt (vsum (vs.drop (i + 1))) := wt_vadd _ _
  omega
end Go.Proofs.Qxb6001165a
