/-
  THE DECODER's node at a token that makes a leaf.
-/
import Derived.Test.Qxb6001165aNode
namespace Go.Proofs.Qxb6001165a
open Go.RowKit

/-- Behind the token. -/
def Read (w wx : World) (D : Nat) (T : Value) (pos : Nat) : Prop := DecAt wx D T (pos + 1) ∧ w.grownBy wx (some D) ∧ w.heap.size = wx.heap.size

theorem dec_set {w : World} {D pos : Nat} {T : Value} (h : DecAt w D T pos) : DecAt (w.setCell ⟨D, 1, none⟩ (.int .i64 ((pos + 1 : Nat) : Int))) D T (pos + 1) := by
  obtain ⟨q2, q3, q4, q5, q6, q7, hd⟩ := h
  refine ⟨q2, q3, q4, q5, q6, q7, ?_⟩
  simp only [World.setCell, Array.getElem?_modify, hd]
  simp
theorem dec_bump {w : World} {D pos : Nat} {T : Value} (h : DecAt w D T pos) (j : Nat) (h2 : 2 ≤ j) (h7 : j ≤ 7) (x : Int) : DecAt (w.setCell ⟨D, j, none⟩ (.int .i64 x)) D T pos := by
  obtain ⟨q2, q3, q4, q5, q6, q7, hd⟩ := h
  have hj : j = 2 ∨ j = 3 ∨ j = 4 ∨ j = 5 ∨ j = 6 ∨ j = 7 := by omega
  rcases hj with rfl | rfl | rfl | rfl | rfl | rfl
  · exact ⟨x, q3, q4, q5, q6, q7, by simp only [World.setCell, Array.getElem?_modify, hd]; simp⟩
  · exact ⟨q2, x, q4, q5, q6, q7, by simp only [World.setCell, Array.getElem?_modify, hd]; simp⟩
  · exact ⟨q2, q3, x, q5, q6, q7, by simp only [World.setCell, Array.getElem?_modify, hd]; simp⟩
  · exact ⟨q2, q3, q4, x, q6, q7, by simp only [World.setCell, Array.getElem?_modify, hd]; simp⟩
  · exact ⟨q2, q3, q4, q5, x, q7, by simp only [World.setCell, Array.getElem?_modify, hd]; simp⟩
  · exact ⟨q2, q3, q4, q5, q6, x, by simp only [World.setCell, Array.getElem?_modify, hd]; simp⟩
theorem read_of {w : World} {D pos n : Nat} {T : Value} (h : DecAt w D T pos) : Read w ((w.drewN n).setCell ⟨D, 1, none⟩ (.int .i64 ((pos : Int) + 1))) D T pos := by
  refine ⟨?_, grown_trans grown_drewN grown_set, by simp [World.setCell]⟩
  have e : ((pos : Int) + 1) = ((pos + 1 : Nat) : Int) := by omega
  rw [e]
  exact dec_set (w := w.drewN n) h
theorem size_set (w : World) (a : Addr) (v : Value) : (w.setCell a v).heap.size = w.heap.size := by simp [World.setCell]

/-- A leaf made behind its token. -/
theorem leaf_fin {w W : World} {D tl pos : Nat} {T : Value} {N : Nat} (hN : N = W.heap.size) (hW : DecAt W D T (pos + 1)) (hg : w.grownBy W (some D)) (hp : pos < tl)
    (kd mx : Int) (lo hi mn : Int) (gr : Bool) (g gs : Int) (ng : Bool) (h0 : 0 ≤ kd) (h1 : kd ≤ 11) (hk : ¬ (kd = 2 ∨ kd = 3 ∨ kd = 4 ∨ kd = 5 ∨ kd = 6)) (hwt : wt (vecOf kd mx []) ≤ 10) :
    NodeEnd w D T tl pos (.returned (.pointer (some ⟨N + 1, 0, none⟩))) ((W.alloc (SetObj lo hi)).alloc (.cells (NodeCells kd (.slice none 0 0) N mn mx gr g gs ng) 81)) := by
  subst hN
  exact ⟨W.heap.size + 1, 1, _, _, pos + 1, rfl, (leaf_nd W kd mx lo hi mn gr g gs ng h0 h1 hk).base hg.size, dec_alloc2 hW, by omega, by omega, by omega, grown_trans hg (grown_trans grown_alloc grown_alloc)⟩
theorem wt_leaf (kd mx : Int) (hk : ¬ (kd = 2 ∨ kd = 3 ∨ kd = 4 ∨ kd = 5 ∨ kd = 6)) : wt (vecOf kd mx []) ≤ 10 := by
  have h : vecOf kd mx [] = vz ∨ vecOf kd mx [] = ve 0 ∨ vecOf kd mx [] = ve 7 ∨ vecOf kd mx [] = ve 5 := by
    unfold vecOf
    by_cases e0 : kd = 0
    · rw [if_pos e0]; exact .inl rfl
    rw [if_neg e0]
    by_cases e1 : kd = 1
    · rw [if_pos e1]; exact .inr (.inl rfl)
    rw [if_neg e1, if_neg (by omega), if_neg (by omega), if_neg (by omega), if_neg (by omega), if_neg (by omega)]
    by_cases e7 : kd = 7
    · rw [if_pos e7]; exact .inr (.inr (.inl rfl))
    · rw [if_neg e7]; exact .inr (.inr (.inr rfl))
  rcases h with h | h | h | h <;> rw [h] <;> decide

set_option maxRecDepth 4000 in
set_option maxHeartbeats 2000000 in
theorem node_plain (D : Nat) (T : Value) (tl pos : Nat) (live : Bool) (w : World) (hd : DecAt w D T pos) (ht : Toks w D T tl) (hl : tl ≤ 65536) (hp : pos < tl) (tb c : Nat) (hT : T = .slice (some ⟨tb, 0, none⟩) tl tl) (htc : w.cell? ⟨tb, pos, none⟩ = some (.int .u8 c)) (hc : c < 256) (m : Int) (hk : ((c % 12 : Nat) : Int) = m) (hm : m = 0 ∨ m = 9 ∨ m = 10 ∨ m = 11) :
    Calls Try.prog 27 #[.pointer (some ⟨D, 0, none⟩), .bool live] w fun e w' => NodeEnd w D T tl pos e w' := by
  have HD : Hid (DecAt w D T pos) := hd
  have HT : Hid (Toks w D T tl) := ht
  obtain ⟨q2, q3, q4, q5, q6, q7, hd⟩ := hd
  have c0 : w.cell? ⟨D, 0, none⟩ = some T := row_cell hd rfl
  have c1 : w.cell? ⟨D, 1, none⟩ = some (.int .i64 pos) := row_cell hd rfl
  have f1 : w.frozen? ⟨D, 1, none⟩ = false := row_frozen hd
  clear hd ht q2 q3 q4 q5 q6 q7
  subst hT
  have hlt : (pos : Int) < (tl : Int) := by omega
  go_enter Try.func27, Try.ntmps27
  go_wp2
  go_quiet (fail)
  go_wp2
  go_quiet (fail)
  go_upto_region 6 with fail
  go_cut [5, 6, 7] from 21 (fun s5 s6 s7 wx => s5 = .int .u8 c ∧ s6 = .int .u8 m ∧ (∃ q : Int, 0 ≤ q ∧ q ≤ 21 ∧ s7 = .int .i64 q) ∧ Read w wx D (.slice (some ⟨tb, 0, none⟩) tl tl) pos)
  case first =>
    go_wp2_with fail
    go_meet
    exact ⟨rfl, congrArg (Value.int .u8) (by omega), ⟨_, by omega, by omega, rfl⟩, read_of HD.out⟩
  case rest =>
  obtain ⟨rfl, rfl, ⟨q, hq0, hq1, rfl⟩, hdx, hgx, hzx⟩ := hcut
  have HG : Hid (w.grownBy wc (some D)) := hgx
  have HDX : Hid (DecAt wc D (.slice (some ⟨tb, 0, none⟩) tl tl) (pos + 1)) := hdx
  obtain ⟨q2, q3, q4, q5, q6, q7, hd⟩ := hdx
  clear c0 c1 f1 htc hlt
  have c2 : wc.cell? ⟨D, 2, none⟩ = some (.int .i64 q2) := row_cell hd rfl
  have c3 : wc.cell? ⟨D, 3, none⟩ = some (.int .i64 q3) := row_cell hd rfl
  have c4 : wc.cell? ⟨D, 4, none⟩ = some (.int .i64 q4) := row_cell hd rfl
  have c5 : wc.cell? ⟨D, 5, none⟩ = some (.int .i64 q5) := row_cell hd rfl
  have c6 : wc.cell? ⟨D, 6, none⟩ = some (.int .i64 q6) := row_cell hd rfl
  have c7 : wc.cell? ⟨D, 7, none⟩ = some (.int .i64 q7) := row_cell hd rfl
  have f2 : wc.frozen? ⟨D, 2, none⟩ = false := row_frozen hd
  have f3 : wc.frozen? ⟨D, 3, none⟩ = false := row_frozen hd
  have f4 : wc.frozen? ⟨D, 4, none⟩ = false := row_frozen hd
  have f5 : wc.frozen? ⟨D, 5, none⟩ = false := row_frozen hd
  have f6 : wc.frozen? ⟨D, 6, none⟩ = false := row_frozen hd
  have f7 : wc.frozen? ⟨D, 7, none⟩ = false := row_frozen hd
  have hDl : D < wc.heap.size := heap_lt hd
  clear hd hgx
  have d1 : (m == 1) = false := by simp; omega
  have d2 : (m == 2) = false := by simp; omega
  have d3 : (m == 3) = false := by simp; omega
  have d4 : (m == 4) = false := by simp; omega
  have d5 : (m == 5) = false := by simp; omega
  have d6 : (m == 6) = false := by simp; omega
  have d7 : (m == 7) = false := by simp; omega
  have d8 : (m == 8) = false := by simp; omega
  have hm' : ¬ (m = 2 ∨ m = 3 ∨ m = 4 ∨ m = 5 ∨ m = 6) := by omega
  have m0 : 0 ≤ m := by omega
  have m11 : m ≤ 11 := by omega
  clear hk hm
  go_wp2_with (go_at_call 18; refine (leaf_any _ _).mono ?_; rintro e w' ⟨rfl, rfl⟩)
  go_ret
  exact leaf_fin rfl HDX.out HG.out hp m 0 0 0 0 false 0 0 false m0 m11 hm' (wt_leaf m 0 hm')


set_option maxRecDepth 4000 in
set_option maxHeartbeats 2000000 in
theorem node_set (D : Nat) (T : Value) (tl pos : Nat) (live : Bool) (w : World) (hd : DecAt w D T pos) (ht : Toks w D T tl) (hl : tl ≤ 65536) (hp : pos < tl) (tb c : Nat) (hT : T = .slice (some ⟨tb, 0, none⟩) tl tl) (htc : w.cell? ⟨tb, pos, none⟩ = some (.int .u8 c)) (hc : c < 256) (hk : c % 12 = 1) :
    Calls Try.prog 27 #[.pointer (some ⟨D, 0, none⟩), .bool live] w fun e w' => NodeEnd w D T tl pos e w' := by
  have HD : Hid (DecAt w D T pos) := hd
  have HT : Hid (Toks w D T tl) := ht
  obtain ⟨q2, q3, q4, q5, q6, q7, hd⟩ := hd
  have c0 : w.cell? ⟨D, 0, none⟩ = some T := row_cell hd rfl
  have c1 : w.cell? ⟨D, 1, none⟩ = some (.int .i64 pos) := row_cell hd rfl
  have f1 : w.frozen? ⟨D, 1, none⟩ = false := row_frozen hd
  clear hd ht q2 q3 q4 q5 q6 q7
  subst hT
  have hlt : (pos : Int) < (tl : Int) := by omega
  go_enter Try.func27, Try.ntmps27
  go_wp2
  go_quiet (fail)
  go_wp2
  go_quiet (fail)
  go_upto_region 6 with fail
  go_cut [5, 6, 7] from 21 (fun s5 s6 s7 wx => s5 = .int .u8 c ∧ s6 = .int .u8 1 ∧ (∃ q : Int, 0 ≤ q ∧ q ≤ 21 ∧ s7 = .int .i64 q) ∧ Read w wx D (.slice (some ⟨tb, 0, none⟩) tl tl) pos)
  case first =>
    go_wp2_with fail
    go_meet
    exact ⟨rfl, congrArg (Value.int .u8) (by omega), ⟨_, by omega, by omega, rfl⟩, read_of HD.out⟩
  case rest =>
  obtain ⟨rfl, rfl, ⟨q, hq0, hq1, rfl⟩, hdx, hgx, hzx⟩ := hcut
  have HG : Hid (w.grownBy wc (some D)) := hgx
  have HDX : Hid (DecAt wc D (.slice (some ⟨tb, 0, none⟩) tl tl) (pos + 1)) := hdx
  obtain ⟨q2, q3, q4, q5, q6, q7, hd⟩ := hdx
  clear c0 c1 f1 htc hlt
  have c2 : wc.cell? ⟨D, 2, none⟩ = some (.int .i64 q2) := row_cell hd rfl
  have c3 : wc.cell? ⟨D, 3, none⟩ = some (.int .i64 q3) := row_cell hd rfl
  have c4 : wc.cell? ⟨D, 4, none⟩ = some (.int .i64 q4) := row_cell hd rfl
  have c5 : wc.cell? ⟨D, 5, none⟩ = some (.int .i64 q5) := row_cell hd rfl
  have c6 : wc.cell? ⟨D, 6, none⟩ = some (.int .i64 q6) := row_cell hd rfl
  have c7 : wc.cell? ⟨D, 7, none⟩ = some (.int .i64 q7) := row_cell hd rfl
  have f2 : wc.frozen? ⟨D, 2, none⟩ = false := row_frozen hd
  have f3 : wc.frozen? ⟨D, 3, none⟩ = false := row_frozen hd
  have f4 : wc.frozen? ⟨D, 4, none⟩ = false := row_frozen hd
  have f5 : wc.frozen? ⟨D, 5, none⟩ = false := row_frozen hd
  have f6 : wc.frozen? ⟨D, 6, none⟩ = false := row_frozen hd
  have f7 : wc.frozen? ⟨D, 7, none⟩ = false := row_frozen hd
  have hDl : D < wc.heap.size := heap_lt hd
  clear hd hgx
  cases live
  · go_wp2_with (go_at_call 29; refine (make_any _ _ _ _ _ _ _ _ _ _ _ _ _).mono ?_; rintro e w' ⟨rfl, rfl⟩)
    go_ret
    exact leaf_fin rfl HDX.out HG.out hp 1 0 _ _ 0 false 0 0 false (by omega) (by omega) (by omega) (by decide)
  · go_wp2_with (go_at_call 29; refine (make_any _ _ _ _ _ _ _ _ _ _ _ _ _).mono ?_; rintro e w' ⟨rfl, rfl⟩)
    go_ret
    exact leaf_fin (size_set _ _ _).symm (dec_bump HDX.out 4 (by omega) (by omega) _) (grown_trans HG.out grown_set) hp 1 0 _ _ 0 false 0 0 false (by omega) (by omega) (by omega) (by decide)


set_option maxRecDepth 4000 in
set_option maxHeartbeats 2000000 in
theorem node_back (D : Nat) (T : Value) (tl pos : Nat) (live : Bool) (w : World) (hd : DecAt w D T pos) (ht : Toks w D T tl) (hl : tl ≤ 65536) (hp : pos < tl) (tb c : Nat) (hT : T = .slice (some ⟨tb, 0, none⟩) tl tl) (htc : w.cell? ⟨tb, pos, none⟩ = some (.int .u8 c)) (hc : c < 256) (hk : c % 12 = 7) :
    Calls Try.prog 27 #[.pointer (some ⟨D, 0, none⟩), .bool live] w fun e w' => NodeEnd w D T tl pos e w' := by
  have HD : Hid (DecAt w D T pos) := hd
  have HT : Hid (Toks w D T tl) := ht
  obtain ⟨q2, q3, q4, q5, q6, q7, hd⟩ := hd
  have c0 : w.cell? ⟨D, 0, none⟩ = some T := row_cell hd rfl
  have c1 : w.cell? ⟨D, 1, none⟩ = some (.int .i64 pos) := row_cell hd rfl
  have f1 : w.frozen? ⟨D, 1, none⟩ = false := row_frozen hd
  clear hd ht q2 q3 q4 q5 q6 q7
  subst hT
  have hlt : (pos : Int) < (tl : Int) := by omega
  go_enter Try.func27, Try.ntmps27
  go_wp2
  go_quiet (fail)
  go_wp2
  go_quiet (fail)
  go_upto_region 6 with fail
  go_cut [5, 6, 7] from 21 (fun s5 s6 s7 wx => s5 = .int .u8 c ∧ s6 = .int .u8 7 ∧ (∃ q : Int, 0 ≤ q ∧ q ≤ 21 ∧ s7 = .int .i64 q) ∧ Read w wx D (.slice (some ⟨tb, 0, none⟩) tl tl) pos)
  case first =>
    go_wp2_with fail
    go_meet
    exact ⟨rfl, congrArg (Value.int .u8) (by omega), ⟨_, by omega, by omega, rfl⟩, read_of HD.out⟩
  case rest =>
  obtain ⟨rfl, rfl, ⟨q, hq0, hq1, rfl⟩, hdx, hgx, hzx⟩ := hcut
  have HG : Hid (w.grownBy wc (some D)) := hgx
  have HDX : Hid (DecAt wc D (.slice (some ⟨tb, 0, none⟩) tl tl) (pos + 1)) := hdx
  obtain ⟨q2, q3, q4, q5, q6, q7, hd⟩ := hdx
  clear c0 c1 f1 htc hlt
  have c2 : wc.cell? ⟨D, 2, none⟩ = some (.int .i64 q2) := row_cell hd rfl
  have c3 : wc.cell? ⟨D, 3, none⟩ = some (.int .i64 q3) := row_cell hd rfl
  have c4 : wc.cell? ⟨D, 4, none⟩ = some (.int .i64 q4) := row_cell hd rfl
  have c5 : wc.cell? ⟨D, 5, none⟩ = some (.int .i64 q5) := row_cell hd rfl
  have c6 : wc.cell? ⟨D, 6, none⟩ = some (.int .i64 q6) := row_cell hd rfl
  have c7 : wc.cell? ⟨D, 7, none⟩ = some (.int .i64 q7) := row_cell hd rfl
  have f2 : wc.frozen? ⟨D, 2, none⟩ = false := row_frozen hd
  have f3 : wc.frozen? ⟨D, 3, none⟩ = false := row_frozen hd
  have f4 : wc.frozen? ⟨D, 4, none⟩ = false := row_frozen hd
  have f5 : wc.frozen? ⟨D, 5, none⟩ = false := row_frozen hd
  have f6 : wc.frozen? ⟨D, 6, none⟩ = false := row_frozen hd
  have f7 : wc.frozen? ⟨D, 7, none⟩ = false := row_frozen hd
  have hDl : D < wc.heap.size := heap_lt hd
  clear hd hgx
  go_wp2_with (go_at_call 29; refine (make_any _ _ _ _ _ _ _ _ _ _ _ _ _).mono ?_; rintro e w' ⟨rfl, rfl⟩)
  go_ret
  exact leaf_fin rfl HDX.out HG.out hp 7 0 0 0 0 false _ 0 false (by omega) (by omega) (by omega) (by decide)


set_option maxRecDepth 4000 in
set_option maxHeartbeats 2000000 in
theorem node_start (D : Nat) (T : Value) (tl pos : Nat) (live : Bool) (w : World) (hd : DecAt w D T pos) (ht : Toks w D T tl) (hl : tl ≤ 65536) (hp : pos < tl) (tb c : Nat) (hT : T = .slice (some ⟨tb, 0, none⟩) tl tl) (htc : w.cell? ⟨tb, pos, none⟩ = some (.int .u8 c)) (hc : c < 256) (hk : c % 12 = 8) :
    Calls Try.prog 27 #[.pointer (some ⟨D, 0, none⟩), .bool live] w fun e w' => NodeEnd w D T tl pos e w' := by
  have HD : Hid (DecAt w D T pos) := hd
  have HT : Hid (Toks w D T tl) := ht
  obtain ⟨q2, q3, q4, q5, q6, q7, hd⟩ := hd
  have c0 : w.cell? ⟨D, 0, none⟩ = some T := row_cell hd rfl
  have c1 : w.cell? ⟨D, 1, none⟩ = some (.int .i64 pos) := row_cell hd rfl
  have f1 : w.frozen? ⟨D, 1, none⟩ = false := row_frozen hd
  clear hd ht q2 q3 q4 q5 q6 q7
  subst hT
  have hlt : (pos : Int) < (tl : Int) := by omega
  go_enter Try.func27, Try.ntmps27
  go_wp2
  go_quiet (fail)
  go_wp2
  go_quiet (fail)
  go_upto_region 6 with fail
  go_cut [5, 6, 7] from 21 (fun s5 s6 s7 wx => s5 = .int .u8 c ∧ s6 = .int .u8 8 ∧ (∃ q : Int, 0 ≤ q ∧ q ≤ 21 ∧ s7 = .int .i64 q) ∧ Read w wx D (.slice (some ⟨tb, 0, none⟩) tl tl) pos)
  case first =>
    go_wp2_with fail
    go_meet
    exact ⟨rfl, congrArg (Value.int .u8) (by omega), ⟨_, by omega, by omega, rfl⟩, read_of HD.out⟩
  case rest =>
  obtain ⟨rfl, rfl, ⟨q, hq0, hq1, rfl⟩, hdx, hgx, hzx⟩ := hcut
  have HG : Hid (w.grownBy wc (some D)) := hgx
  have HDX : Hid (DecAt wc D (.slice (some ⟨tb, 0, none⟩) tl tl) (pos + 1)) := hdx
  obtain ⟨q2, q3, q4, q5, q6, q7, hd⟩ := hdx
  clear c0 c1 f1 htc hlt
  have c2 : wc.cell? ⟨D, 2, none⟩ = some (.int .i64 q2) := row_cell hd rfl
  have c3 : wc.cell? ⟨D, 3, none⟩ = some (.int .i64 q3) := row_cell hd rfl
  have c4 : wc.cell? ⟨D, 4, none⟩ = some (.int .i64 q4) := row_cell hd rfl
  have c5 : wc.cell? ⟨D, 5, none⟩ = some (.int .i64 q5) := row_cell hd rfl
  have c6 : wc.cell? ⟨D, 6, none⟩ = some (.int .i64 q6) := row_cell hd rfl
  have c7 : wc.cell? ⟨D, 7, none⟩ = some (.int .i64 q7) := row_cell hd rfl
  have f2 : wc.frozen? ⟨D, 2, none⟩ = false := row_frozen hd
  have f3 : wc.frozen? ⟨D, 3, none⟩ = false := row_frozen hd
  have f4 : wc.frozen? ⟨D, 4, none⟩ = false := row_frozen hd
  have f5 : wc.frozen? ⟨D, 5, none⟩ = false := row_frozen hd
  have f6 : wc.frozen? ⟨D, 6, none⟩ = false := row_frozen hd
  have f7 : wc.frozen? ⟨D, 7, none⟩ = false := row_frozen hd
  have hDl : D < wc.heap.size := heap_lt hd
  clear hd hgx
  go_wp2_with (go_at_call 18; refine (leaf_any _ _).mono ?_; rintro e w' ⟨rfl, rfl⟩)
  go_ret
  exact leaf_fin (size_set _ _ _).symm (dec_bump HDX.out 3 (by omega) (by omega) _) (grown_trans HG.out grown_set) hp 8 0 0 0 0 false 0 0 false (by omega) (by omega) (by omega) (by decide)

end Go.Proofs.Qxb6001165a
