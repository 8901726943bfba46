/-
  emit: the kinds that add one instruction, and the group.
-/
import Derived.Test.Qxb6001165aEmit
namespace Go.Proofs.Qxb6001165a
open Go.RowKit

theorem setNil (w0 : World) : SetOk w0 none 0 0 := .inl ⟨rfl, rfl, rfl⟩

set_option maxRecDepth 4000 in
set_option maxHeartbeats 1000000 in
theorem emit_7 (w0 F w : World) (P a : Nat) (ops : List Nat) (nl nk nb : Nat) (back : Bool) (sv : Value) (sb : Nat) (mn mx : Int) (gr : Bool) (g gs : Int) (ng : Bool) (hP : w0.heap.size = P) (ha : w0.heap[a]? = some (.cells (NodeCells 7 sv sb mn mx gr g gs ng) 81 (0, 0)))
    (hp : Prg w0 F w P ops nl nk nb) (hl : ops.length ≤ 2000000) :
    Calls Try.prog 30 #[.pointer (some ⟨P, 0, none⟩), .pointer (some ⟨a, 0, none⟩), .bool back, .pointer (some ⟨P + 1, 0, none⟩)] w fun e w' => EmitEnd w0 F P ops nl nk nb (ve 7) e w' := by
  have hn := hp.node hP ha
  have c0 : w.cell? ⟨a, 0, none⟩ = some (.int .u8 7) := row_cell hn rfl
  have c6 : w.cell? ⟨a, 6, none⟩ = some (.int .i64 g) := row_cell hn rfl
  have HP : Hid (Prg w0 F w P ops nl nk nb) := hp
  clear hp hn ha
  go_enter Try.func30, Try.ntmps30
  go_wp2_with fail
  refine (add_any w0 F w P ops nl nk nb 7 back g 0 0 _ _ _ HP.out (by omega) (setNil w0) hl).mono ?_
  rintro e w' ⟨rfl, hp', _⟩
  have HP' : Hid (Prg w0 F w' P (ops ++ [7]) nl nk nb) := hp'
  clear hp'
  go_wp2
  go_end0
  exact ⟨rfl, HP'.out.end1 (by omega) rfl⟩

set_option maxRecDepth 4000 in
set_option maxHeartbeats 1000000 in
theorem emit_8 (w0 F w : World) (P a : Nat) (ops : List Nat) (nl nk nb : Nat) (back : Bool) (sv : Value) (sb : Nat) (mn mx : Int) (gr : Bool) (g gs : Int) (ng : Bool) (hP : w0.heap.size = P) (ha : w0.heap[a]? = some (.cells (NodeCells 8 sv sb mn mx gr g gs ng) 81 (0, 0)))
    (hp : Prg w0 F w P ops nl nk nb) (hl : ops.length ≤ 2000000) :
    Calls Try.prog 30 #[.pointer (some ⟨P, 0, none⟩), .pointer (some ⟨a, 0, none⟩), .bool back, .pointer (some ⟨P + 1, 0, none⟩)] w fun e w' => EmitEnd w0 F P ops nl nk nb (ve 5) e w' := by
  have hn := hp.node hP ha
  have c0 : w.cell? ⟨a, 0, none⟩ = some (.int .u8 8) := row_cell hn rfl
  have HP : Hid (Prg w0 F w P ops nl nk nb) := hp
  clear hp hn ha
  go_enter Try.func30, Try.ntmps30
  go_wp2_with fail
  refine (add_any w0 F w P ops nl nk nb 5 false 8 0 0 _ _ _ HP.out (by omega) (setNil w0) hl).mono ?_
  rintro e w' ⟨rfl, hp', _⟩
  have HP' : Hid (Prg w0 F w' P (ops ++ [5]) nl nk nb) := hp'
  clear hp'
  go_wp2
  go_end0
  exact ⟨rfl, HP'.out.end1 (by omega) rfl⟩

set_option maxRecDepth 4000 in
set_option maxHeartbeats 1000000 in
theorem emit_9 (w0 F w : World) (P a : Nat) (ops : List Nat) (nl nk nb : Nat) (back : Bool) (sv : Value) (sb : Nat) (mn mx : Int) (gr : Bool) (g gs : Int) (ng : Bool) (hP : w0.heap.size = P) (ha : w0.heap[a]? = some (.cells (NodeCells 9 sv sb mn mx gr g gs ng) 81 (0, 0)))
    (hp : Prg w0 F w P ops nl nk nb) (hl : ops.length ≤ 2000000) :
    Calls Try.prog 30 #[.pointer (some ⟨P, 0, none⟩), .pointer (some ⟨a, 0, none⟩), .bool back, .pointer (some ⟨P + 1, 0, none⟩)] w fun e w' => EmitEnd w0 F P ops nl nk nb (ve 5) e w' := by
  have hn := hp.node hP ha
  have c0 : w.cell? ⟨a, 0, none⟩ = some (.int .u8 9) := row_cell hn rfl
  have HP : Hid (Prg w0 F w P ops nl nk nb) := hp
  clear hp hn ha
  go_enter Try.func30, Try.ntmps30
  go_wp2_with fail
  refine (add_any w0 F w P ops nl nk nb 5 false 9 0 0 _ _ _ HP.out (by omega) (setNil w0) hl).mono ?_
  rintro e w' ⟨rfl, hp', _⟩
  have HP' : Hid (Prg w0 F w' P (ops ++ [5]) nl nk nb) := hp'
  clear hp'
  go_wp2
  go_end0
  exact ⟨rfl, HP'.out.end1 (by omega) rfl⟩

set_option maxRecDepth 4000 in
set_option maxHeartbeats 1000000 in
theorem emit_10 (w0 F w : World) (P a : Nat) (ops : List Nat) (nl nk nb : Nat) (back : Bool) (sv : Value) (sb : Nat) (mn mx : Int) (gr : Bool) (g gs : Int) (ng : Bool) (hP : w0.heap.size = P) (ha : w0.heap[a]? = some (.cells (NodeCells 10 sv sb mn mx gr g gs ng) 81 (0, 0)))
    (hp : Prg w0 F w P ops nl nk nb) (hl : ops.length ≤ 2000000) :
    Calls Try.prog 30 #[.pointer (some ⟨P, 0, none⟩), .pointer (some ⟨a, 0, none⟩), .bool back, .pointer (some ⟨P + 1, 0, none⟩)] w fun e w' => EmitEnd w0 F P ops nl nk nb (ve 5) e w' := by
  have hn := hp.node hP ha
  have c0 : w.cell? ⟨a, 0, none⟩ = some (.int .u8 10) := row_cell hn rfl
  have HP : Hid (Prg w0 F w P ops nl nk nb) := hp
  clear hp hn ha
  go_enter Try.func30, Try.ntmps30
  go_wp2_with fail
  refine (add_any w0 F w P ops nl nk nb 5 false 10 0 0 _ _ _ HP.out (by omega) (setNil w0) hl).mono ?_
  rintro e w' ⟨rfl, hp', _⟩
  have HP' : Hid (Prg w0 F w' P (ops ++ [5]) nl nk nb) := hp'
  clear hp'
  go_wp2
  go_end0
  exact ⟨rfl, HP'.out.end1 (by omega) rfl⟩

set_option maxRecDepth 4000 in
set_option maxHeartbeats 1000000 in
theorem emit_11 (w0 F w : World) (P a : Nat) (ops : List Nat) (nl nk nb : Nat) (back : Bool) (sv : Value) (sb : Nat) (mn mx : Int) (gr : Bool) (g gs : Int) (ng : Bool) (hP : w0.heap.size = P) (ha : w0.heap[a]? = some (.cells (NodeCells 11 sv sb mn mx gr g gs ng) 81 (0, 0)))
    (hp : Prg w0 F w P ops nl nk nb) (hl : ops.length ≤ 2000000) :
    Calls Try.prog 30 #[.pointer (some ⟨P, 0, none⟩), .pointer (some ⟨a, 0, none⟩), .bool back, .pointer (some ⟨P + 1, 0, none⟩)] w fun e w' => EmitEnd w0 F P ops nl nk nb (ve 5) e w' := by
  have hn := hp.node hP ha
  have c0 : w.cell? ⟨a, 0, none⟩ = some (.int .u8 11) := row_cell hn rfl
  have HP : Hid (Prg w0 F w P ops nl nk nb) := hp
  clear hp hn ha
  go_enter Try.func30, Try.ntmps30
  go_wp2_with fail
  refine (add_any w0 F w P ops nl nk nb 5 false 11 0 0 _ _ _ HP.out (by omega) (setNil w0) hl).mono ?_
  rintro e w' ⟨rfl, hp', _⟩
  have HP' : Hid (Prg w0 F w' P (ops ++ [5]) nl nk nb) := hp'
  clear hp'
  go_wp2
  go_end0
  exact ⟨rfl, HP'.out.end1 (by omega) rfl⟩

set_option maxRecDepth 4000 in
set_option maxHeartbeats 1000000 in
theorem emit_5 (w0 F w : World) (P a k : Nat) (ops : List Nat) (nl nk nb : Nat) (back : Bool) (row n cap : Nat) (sb : Nat) (mn mx : Int) (gr : Bool) (g gs : Int) (ng : Bool) (hP : w0.heap.size = P) (ha : w0.heap[a]? = some (.cells (NodeCells 5 (.slice (some ⟨row, 0, none⟩) n cap) sb mn mx gr g gs ng) 81 (0, 0)))
    (hn0 : 0 < n) (a1 : Nat) (b1 : Bool) (v1 : Nat → Nat) (hrow : row < w0.heap.size) (hr : w0.cell? ⟨row, 0, none⟩ = some (.pointer (some ⟨a1, 0, none⟩))) (hnd : Nd k w0 0 a1 b1 v1) (ih : EmitAt w0 P k) (hp : Prg w0 F w P ops nl nk nb) (hl : ops.length + nl + nk + nb + 2 * wt v1 ≤ 1999996) :
    Calls Try.prog 30 #[.pointer (some ⟨P, 0, none⟩), .pointer (some ⟨a, 0, none⟩), .bool back, .pointer (some ⟨P + 1, 0, none⟩)] w fun e w' => EmitEnd w0 F P ops nl nk nb (vadd v1 (vadd (ve 3) (ve 4))) e w' := by
  have hn := hp.node hP ha
  have c0 : w.cell? ⟨a, 0, none⟩ = some (.int .u8 5) := row_cell hn rfl
  have c6 : w.cell? ⟨a, 6, none⟩ = some (.int .i64 g) := row_cell hn rfl
  have HP : Hid (Prg w0 F w P ops nl nk nb) := hp
  have IH : Hid (EmitAt w0 P k) := ih
  have HA : Hid (w0.heap[a]? = some (.cells (NodeCells 5 (.slice (some ⟨row, 0, none⟩) n cap) sb mn mx gr g gs ng) 81 (0, 0))) := ha
  have HR : Hid (w0.cell? ⟨row, 0, none⟩ = some (.pointer (some ⟨a1, 0, none⟩))) := hr
  have hn' : (0 : Int) < (n : Int) := by omega
  clear hp hn ha ih hr
  go_enter Try.func30, Try.ntmps30
  go_wp2_with fail
  refine (add_any w0 F w P ops nl nk nb 3 false g 0 0 _ _ _ HP.out (by omega) (setNil w0) (by omega)).mono ?_
  rintro e w1 ⟨rfl, hp1, _⟩
  have hn := hp1.node hP HA.out
  have d1 : w1.cell? ⟨a, 1, none⟩ = some (.slice (some ⟨row, 0, none⟩) n cap) := row_cell hn rfl
  have r1 : w1.cell? ⟨row, 0, none⟩ = some (.pointer (some ⟨a1, 0, none⟩)) := (hp1.below.cell (p := ⟨row, 0, none⟩) (by show row < P; omega)).trans HR.out
  have HP1 : Hid (Prg w0 F w1 P (ops ++ [3]) nl nk nb) := hp1
  clear hp1 hn
  go_wp2_with fail
  refine (IH.out F w1 a1 b1 v1 _ nl nk nb back hnd HP1.out (by simp; omega)).mono ?_
  rintro e w2 ⟨rfl, ops2, hp2, hc2⟩
  have hn := hp2.node hP HA.out
  have e6 : w2.cell? ⟨a, 6, none⟩ = some (.int .i64 g) := row_cell hn rfl
  have HP2 : Hid (Prg w0 F w2 P (ops ++ [3] ++ ops2) (nl + v1 13) (nk + v1 14) (nb + v1 14)) := hp2
  have HC2 : Hid (Cnt ops2 v1) := hc2
  clear hp2 hn hc2
  go_wp2_with fail
  refine (add_any w0 F w2 P _ _ _ _ 4 back g 0 0 _ _ _ HP2.out (by omega) (setNil w0) (by have := HC2.out.2; simp; omega)).mono ?_
  rintro e w3 ⟨rfl, hp3, _⟩
  have HP3 : Hid (Prg w0 F w3 P (ops ++ [3] ++ ops2 ++ [4]) (nl + v1 13) (nk + v1 14) (nb + v1 14)) := hp3
  clear hp3
  go_wp2
  go_end0
  exact ⟨rfl, [3] ++ ops2 ++ [4], by have h := HP3.out; simpa [List.append_assoc, vadd, ve] using h, (((Cnt.one 3 (by omega)).add HC2.out).add (Cnt.one 4 (by omega))).eq (fun i _ => by unfold vadd; omega)⟩
end Go.Proofs.Qxb6001165a
