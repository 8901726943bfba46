/-
  emit: lookarounds.
-/
import Derived.Test.Qxb6001165aEmitA
namespace Go.Proofs.Qxb6001165a
open Go.RowKit

theorem Prg.looped {w0 F w w1 : World} {P : Nat} {ops : List Nat} {nl nk nb : Nat} {ai al ak ab : Option Addr} {ci cl ck cb g cap : Nat} {xs xl xk xb ys : List Value}
    (h1 : w.heap[P]? = some (PrgObj ai al ak ops.length ci nl cl nk ck)) (h2 : w.heap[P + 1]? = some (.cells #[.slice ab nb cb] 39 (0, 0)))
    (h3 : w.ownsRow (P + 2) 63 6 (.slice ai ops.length ci) ops.length xs) (h4 : w.ownsRow (P + 2) 67 5 (.slice al nl cl) nl xl) (h5 : w.ownsRow (P + 2) 84 2 (.slice ak nk ck) nk xk) (h6 : w.ownsRow (P + 2) 25 1 (.slice ab nb cb) nb xb)
    (h7 : Ins w0 xs ops) (h8 : Below P w0 w) (h9 : Keep F w)
    (ho1 : w1.ownsRow (P + 2) 67 5 (.slice (some ⟨g, 0, none⟩) (nl + 1) cap) (nl + 1) ys)
    (ha : Appended w w1 (.slice al nl cl) (.slice (some ⟨g, 0, none⟩) (nl + 1) cap)) :
    Prg w0 F (w1.setCell ⟨P, 1, none⟩ (.slice (some ⟨g, 0, none⟩) (nl + 1) cap)) P ops (nl + 1) nk nb := by
  have q1 := block_stays h1 (by omega) h4 ha
  have q2 := block_stays h2 (by omega) h4 ha
  refine ⟨ai, some ⟨g, 0, none⟩, ak, ab, ci, cap, ck, cb, xs, ys, xk, xb, ?_, ?_, ?_, ?_, ?_, ?_, h7, ?_, (h9.app h4 (by decide) ha).set q1 (by decide) _ _⟩
  · exact heap_setCell_same w1 P 1 _ 56 _ q1
  · rw [Below.heap_setCell _ _ _ _ (by simp)]; exact q2
  · exact ownsRow_setCell_below (row_other h3 h4 (by decide) ha) (by simp) _
  · exact ownsRow_setCell_below ho1 (by simp) _
  · exact ownsRow_setCell_below (row_other h5 h4 (by decide) ha) (by simp) _
  · exact ownsRow_setCell_below (row_other h6 h4 (by decide) ha) (by simp) _
  · exact (below_app h8 (by have := heap_lt h1; omega) (by omega) h4 ha).setCell (p := ⟨P, 1, none⟩) (by simp) _

theorem Prg.looked {w0 F w w1 : World} {P : Nat} {ops : List Nat} {nl nk nb : Nat} {ai al ak ab : Option Addr} {ci cl ck cb g cap : Nat} {xs xl xk xb ys : List Value}
    (h1 : w.heap[P]? = some (PrgObj ai al ak ops.length ci nl cl nk ck)) (h2 : w.heap[P + 1]? = some (.cells #[.slice ab nb cb] 39 (0, 0)))
    (h3 : w.ownsRow (P + 2) 63 6 (.slice ai ops.length ci) ops.length xs) (h4 : w.ownsRow (P + 2) 67 5 (.slice al nl cl) nl xl) (h5 : w.ownsRow (P + 2) 84 2 (.slice ak nk ck) nk xk) (h6 : w.ownsRow (P + 2) 25 1 (.slice ab nb cb) nb xb)
    (h7 : Ins w0 xs ops) (h8 : Below P w0 w) (h9 : Keep F w)
    (ho1 : w1.ownsRow (P + 2) 84 2 (.slice (some ⟨g, 0, none⟩) (nk + 1) cap) (nk + 1) ys)
    (ha : Appended w w1 (.slice ak nk ck) (.slice (some ⟨g, 0, none⟩) (nk + 1) cap)) :
    Prg w0 F (w1.setCell ⟨P, 2, none⟩ (.slice (some ⟨g, 0, none⟩) (nk + 1) cap)) P ops nl (nk + 1) nb := by
  have q1 := block_stays h1 (by omega) h5 ha
  have q2 := block_stays h2 (by omega) h5 ha
  refine ⟨ai, al, some ⟨g, 0, none⟩, ab, ci, cl, cap, cb, xs, xl, ys, xb, ?_, ?_, ?_, ?_, ?_, ?_, h7, ?_, (h9.app h5 (by decide) ha).set q1 (by decide) _ _⟩
  · exact heap_setCell_same w1 P 2 _ 56 _ q1
  · rw [Below.heap_setCell _ _ _ _ (by simp)]; exact q2
  · exact ownsRow_setCell_below (row_other h3 h5 (by decide) ha) (by simp) _
  · exact ownsRow_setCell_below (row_other h4 h5 (by decide) ha) (by simp) _
  · exact ownsRow_setCell_below ho1 (by simp) _
  · exact ownsRow_setCell_below (row_other h6 h5 (by decide) ha) (by simp) _
  · exact (below_app h8 (by have := heap_lt h1; omega) (by omega) h5 ha).setCell (p := ⟨P, 2, none⟩) (by simp) _

theorem Prg.bodied {w0 F w w1 : World} {P : Nat} {ops : List Nat} {nl nk nb : Nat} {ai al ak ab : Option Addr} {ci cl ck cb g cap : Nat} {xs xl xk xb ys : List Value}
    (h1 : w.heap[P]? = some (PrgObj ai al ak ops.length ci nl cl nk ck)) (h2 : w.heap[P + 1]? = some (.cells #[.slice ab nb cb] 39 (0, 0)))
    (h3 : w.ownsRow (P + 2) 63 6 (.slice ai ops.length ci) ops.length xs) (h4 : w.ownsRow (P + 2) 67 5 (.slice al nl cl) nl xl) (h5 : w.ownsRow (P + 2) 84 2 (.slice ak nk ck) nk xk) (h6 : w.ownsRow (P + 2) 25 1 (.slice ab nb cb) nb xb)
    (h7 : Ins w0 xs ops) (h8 : Below P w0 w) (h9 : Keep F w)
    (ho1 : w1.ownsRow (P + 2) 25 1 (.slice (some ⟨g, 0, none⟩) (nb + 1) cap) (nb + 1) ys)
    (ha : Appended w w1 (.slice ab nb cb) (.slice (some ⟨g, 0, none⟩) (nb + 1) cap)) :
    Prg w0 F (w1.setCell ⟨P + 1, 0, none⟩ (.slice (some ⟨g, 0, none⟩) (nb + 1) cap)) P ops nl nk (nb + 1) := by
  have q1 := block_stays h1 (by omega) h6 ha
  have q2 := block_stays h2 (by omega) h6 ha
  refine ⟨ai, al, ak, some ⟨g, 0, none⟩, ci, cl, ck, cap, xs, xl, xk, ys, ?_, ?_, ?_, ?_, ?_, ?_, h7, ?_, (h9.app h6 (by decide) ha).set q2 (by decide) _ _⟩
  · rw [Below.heap_setCell _ _ _ _ (by simp)]; exact q1
  · exact heap_setCell_same w1 (P + 1) 0 _ 39 _ q2
  · exact ownsRow_setCell_below (row_other h3 h6 (by decide) ha) (by simp) _
  · exact ownsRow_setCell_below (row_other h4 h6 (by decide) ha) (by simp) _
  · exact ownsRow_setCell_below (row_other h5 h6 (by decide) ha) (by simp) _
  · exact ownsRow_setCell_below ho1 (by simp) _
  · exact (below_app h8 (by have := heap_lt h1; omega) (by omega) h6 ha).setCell (p := ⟨P + 1, 0, none⟩) (by simp) _


/-- What the walk behind an append needs of the old world W (behind the literal's block). -/
def AppLooks (w0 F W : World) (P : Nat) (ops : List Nat) (nl nk nb : Nat) (ak : Option Addr) (ck : Nat) (news : List Value) : Prop :=
  ∃ xk, Hid (W.ownsRow (P + 2) 84 2 (.slice ak nk ck) nk xk) ∧ Hid (P + 2 ≤ W.heap.size) ∧ Hid (∀ g cap w1, w1.ownsRow (P + 2) 84 2 (.slice (some ⟨g, 0, none⟩) (nk + 1) cap) (nk + 1) (xk ++ news) → Appended W w1 (.slice ak nk ck) (.slice (some ⟨g, 0, none⟩) (nk + 1) cap) →
    w1.cell? ⟨P, 2, none⟩ = some (.slice ak nk ck) ∧ w1.frozen? ⟨P, 2, none⟩ = false ∧ Hid (Prg w0 F (w1.setCell ⟨P, 2, none⟩ (.slice (some ⟨g, 0, none⟩) (nk + 1) cap)) P ops nl (nk + 1) nb))
theorem Prg.appLooks {w0 F w : World} {P : Nat} {ops : List Nat} {nl nk nb : Nat} (h : Prg w0 F w P ops nl nk nb) : ∃ ak ck, w.cell? ⟨P, 2, none⟩ = some (.slice ak nk ck) ∧ ∀ W, Below w.heap.size w W → ∀ news, AppLooks w0 F W P ops nl nk nb ak ck news := by
  obtain ⟨ai, al, ak, ab, ci, cl, ck, cb, xs, xl, xk, xb, h1, h2, h3, h4, h5, h6, h7, h8, h9⟩ := h
  refine ⟨ak, ck, row_cell h1 rfl, fun W hW news => ?_⟩
  have hg : w.grownBy W none := ⟨hW.os, hW.tape, hW.output, hW.size, fun k hk _ => hW.block k hk⟩
  have nn : ∀ v : Value, v.ownBlock = none ∨ v.ownBlock ≠ none := fun v => by cases v.ownBlock <;> simp
  have q1 : W.heap[P]? = _ := (hW.block P (heap_lt h1)).trans h1
  have q2 : W.heap[P + 1]? = _ := (hW.block (P + 1) (heap_lt h2)).trans h2
  refine ⟨xk, h5.kept hg (nn _), Nat.le_trans (heap_lt h2) hW.size, ?_⟩
  intro g cap w1 ho1 ha
  have b1 := block_stays q1 (by omega) (h5.kept hg (nn _)) ha
  exact ⟨row_cell b1 rfl, row_frozen b1, Prg.looked q1 q2 (h3.kept hg (nn _)) (h4.kept hg (nn _)) (h5.kept hg (nn _)) (h6.kept hg (nn _)) h7 (h8.trans (hW.mono (by have := heap_lt h1; omega))) (h9.below hW) ho1 ha⟩
def AppLoops (w0 F W : World) (P : Nat) (ops : List Nat) (nl nk nb : Nat) (ak : Option Addr) (ck : Nat) (news : List Value) : Prop :=
  ∃ xk, Hid (W.ownsRow (P + 2) 67 5 (.slice ak nl ck) nl xk) ∧ Hid (P + 2 ≤ W.heap.size) ∧ Hid (∀ g cap w1, w1.ownsRow (P + 2) 67 5 (.slice (some ⟨g, 0, none⟩) (nl + 1) cap) (nl + 1) (xk ++ news) → Appended W w1 (.slice ak nl ck) (.slice (some ⟨g, 0, none⟩) (nl + 1) cap) →
    w1.cell? ⟨P, 1, none⟩ = some (.slice ak nl ck) ∧ w1.frozen? ⟨P, 1, none⟩ = false ∧ Hid (Prg w0 F (w1.setCell ⟨P, 1, none⟩ (.slice (some ⟨g, 0, none⟩) (nl + 1) cap)) P ops (nl + 1) nk nb))
theorem Prg.appLoops {w0 F w : World} {P : Nat} {ops : List Nat} {nl nk nb : Nat} (h : Prg w0 F w P ops nl nk nb) : ∃ ak ck, w.cell? ⟨P, 1, none⟩ = some (.slice ak nl ck) ∧ ∀ W, Below w.heap.size w W → ∀ news, AppLoops w0 F W P ops nl nk nb ak ck news := by
  obtain ⟨ai, al, ak, ab, ci, cl, ck, cb, xs, xl, xk, xb, h1, h2, h3, h4, h5, h6, h7, h8, h9⟩ := h
  refine ⟨al, cl, row_cell h1 rfl, fun W hW news => ?_⟩
  have hg : w.grownBy W none := ⟨hW.os, hW.tape, hW.output, hW.size, fun k hk _ => hW.block k hk⟩
  have nn : ∀ v : Value, v.ownBlock = none ∨ v.ownBlock ≠ none := fun v => by cases v.ownBlock <;> simp
  have q1 : W.heap[P]? = _ := (hW.block P (heap_lt h1)).trans h1
  have q2 : W.heap[P + 1]? = _ := (hW.block (P + 1) (heap_lt h2)).trans h2
  refine ⟨xl, h4.kept hg (nn _), Nat.le_trans (heap_lt h2) hW.size, ?_⟩
  intro g cap w1 ho1 ha
  have b1 := block_stays q1 (by omega) (h4.kept hg (nn _)) ha
  exact ⟨row_cell b1 rfl, row_frozen b1, Prg.looped q1 q2 (h3.kept hg (nn _)) (h4.kept hg (nn _)) (h5.kept hg (nn _)) (h6.kept hg (nn _)) h7 (h8.trans (hW.mono (by have := heap_lt h1; omega))) (h9.below hW) ho1 ha⟩
def AppBodies (w0 F W : World) (P : Nat) (ops : List Nat) (nl nk nb : Nat) (ak : Option Addr) (ck : Nat) (news : List Value) : Prop :=
  ∃ xk, Hid (W.ownsRow (P + 2) 25 1 (.slice ak nb ck) nb xk) ∧ Hid (P + 2 ≤ W.heap.size) ∧ Hid (∀ g cap w1, w1.ownsRow (P + 2) 25 1 (.slice (some ⟨g, 0, none⟩) (nb + 1) cap) (nb + 1) (xk ++ news) → Appended W w1 (.slice ak nb ck) (.slice (some ⟨g, 0, none⟩) (nb + 1) cap) →
    w1.cell? ⟨P + 1, 0, none⟩ = some (.slice ak nb ck) ∧ w1.frozen? ⟨P + 1, 0, none⟩ = false ∧ Hid (Prg w0 F (w1.setCell ⟨P + 1, 0, none⟩ (.slice (some ⟨g, 0, none⟩) (nb + 1) cap)) P ops nl nk (nb + 1)))
theorem Prg.appBodies {w0 F w : World} {P : Nat} {ops : List Nat} {nl nk nb : Nat} (h : Prg w0 F w P ops nl nk nb) : ∃ ak ck, w.cell? ⟨P + 1, 0, none⟩ = some (.slice ak nb ck) ∧ ∀ W, Below w.heap.size w W → ∀ news, AppBodies w0 F W P ops nl nk nb ak ck news := by
  obtain ⟨ai, al, ak, ab, ci, cl, ck, cb, xs, xl, xk, xb, h1, h2, h3, h4, h5, h6, h7, h8, h9⟩ := h
  refine ⟨ab, cb, row_cell h2 rfl, fun W hW news => ?_⟩
  have hg : w.grownBy W none := ⟨hW.os, hW.tape, hW.output, hW.size, fun k hk _ => hW.block k hk⟩
  have nn : ∀ v : Value, v.ownBlock = none ∨ v.ownBlock ≠ none := fun v => by cases v.ownBlock <;> simp
  have q1 : W.heap[P]? = _ := (hW.block P (heap_lt h1)).trans h1
  have q2 : W.heap[P + 1]? = _ := (hW.block (P + 1) (heap_lt h2)).trans h2
  refine ⟨xb, h6.kept hg (nn _), Nat.le_trans (heap_lt h2) hW.size, ?_⟩
  intro g cap w1 ho1 ha
  have b1 := block_stays q2 (by omega) (h6.kept hg (nn _)) ha
  exact ⟨row_cell b1 rfl, row_frozen b1, Prg.bodied q1 q2 (h3.kept hg (nn _)) (h4.kept hg (nn _)) (h5.kept hg (nn _)) (h6.kept hg (nn _)) h7 (h8.trans (hW.mono (by have := heap_lt h1; omega))) (h9.below hW) ho1 ha⟩
/-- The same at an append that stands in the text's order. -/
theorem wpList_app {P : Program} (w : World) {ops : Array Oper} {rest : List Oper} {o : Oper} {a : Act} {Q : Exit → Act → World → Prop} (hgd : o.guard = none) (s x : Operand) (t : TypeId)
    (ho : o.op = .call { callee := .builtin .append, args := #[s, x], argTypes := #[t, t] })
    (base : Nat) (e : TypeId) (i : TypeInfo) (z : Value) (size bytes : Nat) (ht : P.underlying t = some (.slice e)) (hi : P.info? e = some i) (hz : i.zero = some z)
    (hsize : i.size = size) (hby : i.bytes = bytes) (hzs : z.cells.size = size) (hsz : 0 < size)
    (v : Value) (n : Nat) (xs : List Value) (hs : a.eval s = v) (hown : w.ownsRow base e size v n xs)
    (ad : Addr) (c : Nat) (news : List Value) (hx : a.eval x = .slice (some ad) 1 c) (hl : news.length = 1 * size) (hnews : ∀ j u, news[j]? = some u → w.cell? (ad.add j) = some u) (h1 : ∀ u ∈ news, u.oneCell' = true)
    (h63 : n + 1 ≤ maxLen) (hbytes : (n + 1) * bytes ≤ 140737488355328) (hbase : base ≤ w.heap.size)
    (h : ∀ g cap w', w'.ownsRow base e size (.slice (some ⟨g, 0, none⟩) (n + 1) cap) (n + 1) (xs ++ news) → Appended w w' v (.slice (some ⟨g, 0, none⟩) (n + 1) cap) → wpList P ops Q rest (a.put o.dst (.slice (some ⟨g, 0, none⟩) (n + 1) cap)) w') :
    wpList P ops Q (o :: rest) a w := by
  refine wpList_plain hgd fun K hK => ?_
  obtain ⟨g, cap, w', hr, h2, h3⟩ := run_app (P := P) w base t o.type e i z size bytes ht hi hz hsize hby hzs hsz v n xs hown ad c news hl hnews h1 h63 hbytes hbase
  unfold Oper.wp execOp
  simp only [ho, resolve, invoke, builtin, Sem.run_bind, Sem.run_pure, Result.andThen_ok, List.map_toArray, List.map_cons, List.map_nil, hs, hx, hr]
  exact hK _ _ (h g cap w' h2 h3)
end Go.Proofs.Qxb6001165a
