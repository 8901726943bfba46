/-
  emit, kind by kind: what it leaves; the kinds without subs.
-/
import Derived.Test.Qxb6001165aAdd
namespace Go.Proofs.Qxb6001165a
open Go.RowKit

def Cnt (ops : List Nat) (v : Nat → Nat) : Prop := (∀ o, o ≤ 12 → ops.count o = v o) ∧ ops.length + v 13 + v 14 = wt v
theorem Cnt.nil : Cnt [] vz := ⟨fun o _ => rfl, by decide⟩
theorem Cnt.one (o : Nat) (ho : o ≤ 12) : Cnt [o] (ve o) := by
  refine ⟨fun q hq => ?_, ?_⟩
  · by_cases e : q = o
    · subst e; simp [ve]
    · rw [List.count_cons_of_ne (fun h => e h.symm)]; simp [ve, e]
  · have : ∀ o, o ≤ 12 → [o].length + ve o 13 + ve o 14 = wt (ve o) := by decide
    exact this o ho
theorem Cnt.add {x y : List Nat} {u v : Nat → Nat} (h : Cnt x u) (k : Cnt y v) : Cnt (x ++ y) (vadd u v) := by
  refine ⟨fun o ho => by rw [List.count_append, h.1 o ho, k.1 o ho]; rfl, ?_⟩
  have a := h.2
  have b := k.2
  rw [wt_vadd, List.length_append]
  unfold vadd
  omega
theorem Cnt.eq {x : List Nat} {u v : Nat → Nat} (h : Cnt x u) (e : ∀ i, i ≤ 14 → u i = v i) : Cnt x v := by
  refine ⟨fun o ho => by rw [h.1 o ho, e o (by omega)], ?_⟩
  have a := h.2
  have w : wt u = wt v := by
    unfold wt
    rw [e 0 (by omega), e 1 (by omega), e 2 (by omega), e 3 (by omega), e 4 (by omega), e 5 (by omega), e 6 (by omega), e 7 (by omega), e 8 (by omega), e 9 (by omega), e 10 (by omega), e 11 (by omega), e 12 (by omega), e 13 (by omega), e 14 (by omega)]
  rw [← w, ← e 13 (by omega), ← e 14 (by omega)]
  exact a

def EmitEnd (w0 F : World) (P : Nat) (ops : List Nat) (nl nk nb : Nat) (v : Nat → Nat) (e : Ending) (w' : World) : Prop := e = .returned (.tuple #[]) ∧ ∃ ops', Prg w0 F w' P (ops ++ ops') (nl + v 13) (nk + v 14) (nb + v 14) ∧ Cnt ops' v
def EmitAt (w0 : World) (P k : Nat) : Prop := ∀ (F w : World) (a : Nat) (b : Bool) (v : Nat → Nat) (ops : List Nat) (nl nk nb : Nat) (back : Bool), Nd k w0 0 a b v → Prg w0 F w P ops nl nk nb → ops.length + nl + nk + nb + 2 * wt v ≤ 2000000 →
  Calls Try.prog 30 #[.pointer (some ⟨P, 0, none⟩), .pointer (some ⟨a, 0, none⟩), .bool back, .pointer (some ⟨P + 1, 0, none⟩)] w fun e w' => EmitEnd w0 F P ops nl nk nb v e w'

theorem Prg.below {w0 F w : World} {P : Nat} {ops : List Nat} {nl nk nb : Nat} (h : Prg w0 F w P ops nl nk nb) : Below P w0 w := by
  obtain ⟨ai, al, ak, ab, ci, cl, ck, cb, xs, xl, xk, xb, h1, h2, h3, h4, h5, h6, h7, h8, h9⟩ := h
  exact h8
theorem Prg.keep {w0 F w : World} {P : Nat} {ops : List Nat} {nl nk nb : Nat} (h : Prg w0 F w P ops nl nk nb) : Keep F w := by
  obtain ⟨ai, al, ak, ab, ci, cl, ck, cb, xs, xl, xk, xb, h1, h2, h3, h4, h5, h6, h7, h8, h9⟩ := h
  exact h9
theorem Prg.frame {w0 F F' w : World} {P : Nat} {ops : List Nat} {nl nk nb : Nat} (h : Prg w0 F w P ops nl nk nb) (k : Keep F' w) : Prg w0 F' w P ops nl nk nb := by
  obtain ⟨ai, al, ak, ab, ci, cl, ck, cb, xs, xl, xk, xb, h1, h2, h3, h4, h5, h6, h7, h8, h9⟩ := h
  exact ⟨ai, al, ak, ab, ci, cl, ck, cb, xs, xl, xk, xb, h1, h2, h3, h4, h5, h6, h7, h8, k⟩
theorem Prg.node {w0 F w : World} {P a : Nat} {ops : List Nat} {nl nk nb : Nat} {o : Obj} (h : Prg w0 F w P ops nl nk nb) (hP : w0.heap.size = P) (ha : w0.heap[a]? = some o) : w.heap[a]? = some o :=
  (h.below.block a (by have := heap_lt ha; omega)).trans ha

theorem Prg.end1 {w0 F w : World} {P : Nat} {ops : List Nat} {nl nk nb o : Nat} {v : Nat → Nat} (h : Prg w0 F w P (ops ++ [o]) nl nk nb) (ho : o ≤ 12) (hv : v = ve o) : ∃ ops', Prg w0 F w P (ops ++ ops') (nl + v 13) (nk + v 14) (nb + v 14) ∧ Cnt ops' v := by
  subst hv
  have e1 : ve o 13 = 0 := by unfold ve; rw [if_neg (by omega)]
  have e2 : ve o 14 = 0 := by unfold ve; rw [if_neg (by omega)]
  exact ⟨[o], by rw [e1, e2]; exact h, Cnt.one o ho⟩

set_option maxRecDepth 4000 in
set_option maxHeartbeats 1000000 in
theorem emit_0 (w0 F w : World) (P a : Nat) (ops : List Nat) (nl nk nb : Nat) (back : Bool) (sv : Value) (sb : Nat) (mn mx : Int) (gr : Bool) (g gs : Int) (ng : Bool) (hP : w0.heap.size = P) (ha : w0.heap[a]? = some (.cells (NodeCells 0 sv sb mn mx gr g gs ng) 81 (0, 0)))
    (hp : Prg w0 F w P ops nl nk nb) :
    Calls Try.prog 30 #[.pointer (some ⟨P, 0, none⟩), .pointer (some ⟨a, 0, none⟩), .bool back, .pointer (some ⟨P + 1, 0, none⟩)] w fun e w' => EmitEnd w0 F P ops nl nk nb vz e w' := by
  have hn := hp.node hP ha
  have c0 : w.cell? ⟨a, 0, none⟩ = some (.int .u8 0) := row_cell hn rfl
  have HP : Hid (Prg w0 F w P ops nl nk nb) := hp
  clear hp hn ha
  go_enter Try.func30, Try.ntmps30
  go_wp2
  go_end0
  exact ⟨rfl, [], by rw [List.append_nil]; exact HP.out, Cnt.nil⟩

set_option maxRecDepth 4000 in
set_option maxHeartbeats 1000000 in
theorem emit_1 (w0 F w : World) (P a : Nat) (ops : List Nat) (nl nk nb : Nat) (back : Bool) (sv : Value) (sb : Nat) (mn mx : Int) (gr : Bool) (g gs : Int) (ng : Bool) (hP : w0.heap.size = P) (ha : w0.heap[a]? = some (.cells (NodeCells 1 sv sb mn mx gr g gs ng) 81 (0, 0)))
    (hset : ∃ lo hi, w0.heap[sb]? = some (SetObj lo hi)) (hp : Prg w0 F w P ops nl nk nb) (hl : ops.length ≤ 2000000) :
    Calls Try.prog 30 #[.pointer (some ⟨P, 0, none⟩), .pointer (some ⟨a, 0, none⟩), .bool back, .pointer (some ⟨P + 1, 0, none⟩)] w fun e w' => EmitEnd w0 F P ops nl nk nb (ve 0) e w' := by
  have hn := hp.node hP ha
  have c0 : w.cell? ⟨a, 0, none⟩ = some (.int .u8 1) := row_cell hn rfl
  have c2 : w.cell? ⟨a, 2, none⟩ = some (.slice (some ⟨sb, 0, none⟩) 1 1) := row_cell hn rfl
  have HP : Hid (Prg w0 F w P ops nl nk nb) := hp
  have HS : Hid (SetOk w0 (some ⟨sb, 0, none⟩) 1 1) := by
    obtain ⟨lo, hi, h⟩ := hset
    exact .inr ⟨sb, lo, hi, rfl, rfl, rfl, h⟩
  clear hp hn ha hset
  go_enter Try.func30, Try.ntmps30
  go_wp2_with fail
  refine (add_any w0 F w P ops nl nk nb 0 back 0 0 0 _ _ _ HP.out (by omega) HS.out hl).mono ?_
  rintro e w' ⟨rfl, hp', _⟩
  have HP' : Hid (Prg w0 F w' P (ops ++ [0]) nl nk nb) := hp'
  clear hp'
  go_wp2
  go_end0
  exact ⟨rfl, HP'.out.end1 (by omega) rfl⟩
end Go.Proofs.Qxb6001165a
