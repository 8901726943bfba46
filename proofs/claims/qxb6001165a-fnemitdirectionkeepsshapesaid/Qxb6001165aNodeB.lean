/-
  THE DECODER's node at a token with one sub: repeat, group, look.
-/
import Derived.Test.Qxb6001165aNodeA
namespace Go.Proofs.Qxb6001165a
open Go.RowKit

/-- What the induction hands over. -/
def Later (D : Nat) (T : Value) (tl pos : Nat) : Prop := ∀ (p : Nat) (lv : Bool) (W : World), pos < p → p ≤ tl → DecAt W D T p → Toks W D T tl → Calls Try.prog 27 #[.pointer (some ⟨D, 0, none⟩), .bool lv] W fun e w' => NodeEnd W D T tl p e w'

theorem heap_top3 (w : World) (o1 o2 o3 : Obj) : (((w.alloc o1).alloc o2).alloc o3).heap[w.heap.size + 1 + 1]? = some o3 := by
  have h := heap_top2 (w.alloc o1) o2 o3
  have e : (w.alloc o1).heap.size = w.heap.size + 1 := by show (w.heap.push o1).size = _; simp
  rw [e] at h; exact h
theorem heap_mid3 (w : World) (o1 o2 o3 : Obj) : (((w.alloc o1).alloc o2).alloc o3).heap[w.heap.size + 1]? = some o2 := by
  have h := heap_mid2 (w.alloc o1) o2 o3
  have e : (w.alloc o1).heap.size = w.heap.size + 1 := by show (w.heap.push o1).size = _; simp
  rw [e] at h; exact h
theorem size3 (w : World) (o1 o2 o3 : Obj) : (((w.alloc o1).alloc o2).alloc o3).heap.size = w.heap.size + 1 + 1 + 1 := by show (((w.heap.push o1).push o2).push o3).size = _; simp
theorem below3 (w : World) (o1 o2 o3 : Obj) : Below w.heap.size w (((w.alloc o1).alloc o2).alloc o3) :=
  (((Below.refl _ _).alloc (Nat.le_refl _) o1).alloc (by show w.heap.size ≤ (w.heap.push o1).size; simp) o2).alloc (by show w.heap.size ≤ ((w.heap.push o1).push o2).size; simp; omega) o3
theorem dec_below {w w' : World} {D pos : Nat} {T : Value} (h : DecAt w D T pos) (hb : Below w.heap.size w w') : DecAt w' D T pos := by
  obtain ⟨q2, q3, q4, q5, q6, q7, hd⟩ := h
  exact ⟨q2, q3, q4, q5, q6, q7, (hb.block D (heap_lt hd)).trans hd⟩
theorem grown_below {w w' : World} {D : Nat} (hb : Below w.heap.size w w') : w.grownBy w' (some D) := ⟨hb.os, hb.tape, hb.output, hb.size, fun k hk _ => hb.block k hk⟩
theorem row_top3 (w : World) (cs : Array Value) (t : TypeId) (o2 o3 : Obj) (i : Nat) (v : Value) (h : cs[i]? = some v) : (((w.alloc (.cells cs t)).alloc o2).alloc o3).cell? ⟨w.heap.size, i, none⟩ = some v := by
  have e : (((w.alloc (.cells cs t)).alloc o2).alloc o3).heap[w.heap.size]? = some (.cells cs t) := by
    rw [Below.heap_alloc _ _ _ (by show w.heap.size < ((w.heap.push _).push _).size; simp; omega), Below.heap_alloc _ _ _ (by show w.heap.size < (w.heap.push _).size; simp)]
    exact heap_top w _
  exact row_cell e h

theorem wt_vadd (u v : Nat → Nat) : wt (vadd u v) = wt u + wt v := by unfold wt vadd; omega
theorem wt_one (kd mx : Int) (v : Nat → Nat) (hk : kd = 4 ∨ kd = 5 ∨ kd = 6) : wt (vecOf kd mx [v]) ≤ wt v + 6 := by
  have e1 : wt (vsum [v]) = wt v := by
    show wt (vadd v vz) = wt v
    rw [wt_vadd]; rfl
  have x8 : wt (ve 8) = 1 := by decide
  have x9 : wt (ve 9) = 1 := by decide
  have x10 : wt (ve 10) = 1 := by decide
  have x11 : wt (ve 11) = 1 := by decide
  have x13 : wt (ve 13) = 1 := by decide
  have x3 : wt (ve 3) = 1 := by decide
  have x4 : wt (ve 4) = 1 := by decide
  have x6 : wt (ve 6) = 1 := by decide
  have x14 : wt (ve 14) = 1 := by decide
  have xz : wt vz = 0 := by decide
  unfold vecOf
  rw [if_neg (by omega), if_neg (by omega), if_neg (by omega), if_neg (by omega)]
  by_cases e4 : kd = 4
  · rw [if_pos e4]
    split
    · omega
    · rw [wt_vadd, wt_vadd, wt_vadd, wt_vadd, wt_vadd]; omega
  · rw [if_neg e4]
    by_cases e5 : kd = 5
    · rw [if_pos e5, wt_vadd, wt_vadd]; omega
    · rw [if_neg e5, if_pos (by omega), wt_vadd]; omega

/-- A node over one sub. -/
theorem one_nd {w1 : World} {B k a : Nat} {b : Bool} {v : Nat → Nat} (hB : B ≤ w1.heap.size) (h : Nd k w1 B a b v) (kd mx : Int) (lo hi mn : Int) (gr : Bool) (g gs : Int) (ng : Bool) (h0 : 0 ≤ kd) (h1 : kd ≤ 11) :
    Nd (k + 1) (((w1.alloc (.cells #[.pointer (some ⟨a, 0, none⟩)] 25)).alloc (SetObj lo hi)).alloc (.cells (NodeCells kd (.slice (some ⟨w1.heap.size, 0, none⟩) 1 1) (w1.heap.size + 1) mn mx gr g gs ng) 81)) B (w1.heap.size + 1 + 1) (anchOf kd [b]) (vecOf kd mx [v]) := by
  refine ⟨kd, mx, some ⟨w1.heap.size, 0, none⟩, 1, 1, [(a, b, v)], w1.heap.size + 1, mn, gr, g, gs, ng, by omega, heap_top3 w1 _ _ _, rfl, .inr ⟨w1.heap.size, rfl, hB, by rw [size3]; omega, ?_⟩, ?_, h0, h1, by omega, fun _ => by omega, rfl, rfl, by omega, lo, hi, heap_mid3 w1 _ _ _⟩
  · intro i c hi
    match i, hi with
    | 0, hi => simp at hi; subst hi; exact row_top3 w1 _ _ _ _ 0 _ rfl
  · intro c hc
    simp at hc
    subst hc
    exact h.below (below3 w1 _ _ _)

theorem one_fin {w W w1 : World} {D tl pos p k a : Nat} {b : Bool} {v : Nat → Nat} {T : Value} (hg : w.grownBy W (some D)) (hnd : Nd k w1 W.heap.size a b v) (hdec : DecAt w1 D T p) (p1 : pos + 1 ≤ p) (p2 : p ≤ tl) (hwt : wt v ≤ 10 * (p - (pos + 1))) (hg1 : W.grownBy w1 (some D))
    (kd mx : Int) (lo hi mn : Int) (gr : Bool) (g gs : Int) (ng : Bool) (hk : kd = 4 ∨ kd = 5 ∨ kd = 6) :
    NodeEnd w D T tl pos (.returned (.pointer (some ⟨w1.heap.size + 1 + 1, 0, none⟩))) (((w1.alloc (.cells #[.pointer (some ⟨a, 0, none⟩)] 25)).alloc (SetObj lo hi)).alloc (.cells (NodeCells kd (.slice (some ⟨w1.heap.size, 0, none⟩) 1 1) (w1.heap.size + 1) mn mx gr g gs ng) 81)) := by
  have hw := wt_one kd mx v hk
  refine ⟨_, k + 1, _, _, p, rfl, (one_nd hg1.size hnd kd mx lo hi mn gr g gs ng (by omega) (by omega)).base hg.size, dec_below hdec (below3 w1 _ _ _), by omega, p2, by omega, grown_trans hg (grown_trans hg1 (grown_below (below3 w1 _ _ _)))⟩

set_option maxRecDepth 4000 in
set_option maxHeartbeats 2000000 in
theorem node_group (D : Nat) (T : Value) (tl pos : Nat) (live : Bool) (w : World) (hd : DecAt w D T pos) (ht : Toks w D T tl) (hl : tl ≤ 65536) (hp : pos < tl) (tb c : Nat) (hT : T = .slice (some ⟨tb, 0, none⟩) tl tl) (htc : w.cell? ⟨tb, pos, none⟩ = some (.int .u8 c)) (hc : c < 256) (ih : Later D T tl pos) (hk : c % 12 = 5) :
    Calls Try.prog 27 #[.pointer (some ⟨D, 0, none⟩), .bool live] w fun e w' => NodeEnd w D T tl pos e w' := by
  have HD : Hid (DecAt w D T pos) := hd
  have HT : Hid (Toks w D T tl) := ht
  obtain ⟨q2, q3, q4, q5, q6, q7, hd⟩ := hd
  have c0 : w.cell? ⟨D, 0, none⟩ = some T := row_cell hd rfl
  have c1 : w.cell? ⟨D, 1, none⟩ = some (.int .i64 pos) := row_cell hd rfl
  have f1 : w.frozen? ⟨D, 1, none⟩ = false := row_frozen hd
  clear hd ht q2 q3 q4 q5 q6 q7
  subst hT
  have hlt : (pos : Int) < (tl : Int) := by omega
  go_enter Try.func27, Try.ntmps27
  go_wp2
  go_quiet (fail)
  go_wp2
  go_quiet (fail)
  go_upto_region 6 with fail
  go_cut [5, 6, 7] from 21 (fun s5 s6 s7 wx => s5 = .int .u8 c ∧ s6 = .int .u8 5 ∧ (∃ q : Int, 0 ≤ q ∧ q ≤ 21 ∧ s7 = .int .i64 q) ∧ Read w wx D (.slice (some ⟨tb, 0, none⟩) tl tl) pos)
  case first =>
    go_wp2_with fail
    go_meet
    exact ⟨rfl, congrArg (Value.int .u8) (by omega), ⟨_, by omega, by omega, rfl⟩, read_of HD.out⟩
  case rest =>
  obtain ⟨rfl, rfl, ⟨q, hq0, hq1, rfl⟩, hdx, hgx, hzx⟩ := hcut
  have HG : Hid (w.grownBy wc (some D)) := hgx
  have HDX : Hid (DecAt wc D (.slice (some ⟨tb, 0, none⟩) tl tl) (pos + 1)) := hdx
  obtain ⟨q2, q3, q4, q5, q6, q7, hd⟩ := hdx
  clear c0 c1 f1 htc hlt
  have c2 : wc.cell? ⟨D, 2, none⟩ = some (.int .i64 q2) := row_cell hd rfl
  have c3 : wc.cell? ⟨D, 3, none⟩ = some (.int .i64 q3) := row_cell hd rfl
  have c4 : wc.cell? ⟨D, 4, none⟩ = some (.int .i64 q4) := row_cell hd rfl
  have c5 : wc.cell? ⟨D, 5, none⟩ = some (.int .i64 q5) := row_cell hd rfl
  have c6 : wc.cell? ⟨D, 6, none⟩ = some (.int .i64 q6) := row_cell hd rfl
  have c7 : wc.cell? ⟨D, 7, none⟩ = some (.int .i64 q7) := row_cell hd rfl
  have f2 : wc.frozen? ⟨D, 2, none⟩ = false := row_frozen hd
  have f3 : wc.frozen? ⟨D, 3, none⟩ = false := row_frozen hd
  have f4 : wc.frozen? ⟨D, 4, none⟩ = false := row_frozen hd
  have f5 : wc.frozen? ⟨D, 5, none⟩ = false := row_frozen hd
  have f6 : wc.frozen? ⟨D, 6, none⟩ = false := row_frozen hd
  have f7 : wc.frozen? ⟨D, 7, none⟩ = false := row_frozen hd
  have hDl : D < wc.heap.size := heap_lt hd
  clear hd hgx
  have HI : Hid (Later D (.slice (some ⟨tb, 0, none⟩) tl tl) tl pos) := ih
  clear ih
  cases live
  · go_wp2_with fail
    refine (HI.out (pos + 1) false _ (by omega) (by omega) (dec_bump HDX.out 2 (by omega) (by omega) _) (HT.out.kept (grown_trans HG.out grown_set))).mono ?_
    rintro e w1 ⟨a, k, b, v, p, rfl, hnd, hdec, p1, p2, hwt, hg1⟩
    go_wp2_with (go_at_call 29; refine (make_any _ _ _ _ _ _ _ _ _ _ _ _ _).mono ?_; rintro e w' ⟨rfl, rfl⟩)
    go_ret
    exact one_fin (grown_trans HG.out grown_set) hnd hdec p1 p2 hwt hg1 5 0 0 0 0 false _ 0 false (by omega)
  · go_wp2_with fail
    refine (HI.out (pos + 1) true _ (by omega) (by omega) (dec_bump (dec_bump HDX.out 2 (by omega) (by omega) _) 5 (by omega) (by omega) _) (HT.out.kept (grown_trans (grown_trans HG.out grown_set) grown_set))).mono ?_
    rintro e w1 ⟨a, k, b, v, p, rfl, hnd, hdec, p1, p2, hwt, hg1⟩
    go_wp2_with (go_at_call 29; refine (make_any _ _ _ _ _ _ _ _ _ _ _ _ _).mono ?_; rintro e w' ⟨rfl, rfl⟩)
    go_ret
    exact one_fin (grown_trans (grown_trans HG.out grown_set) grown_set) hnd hdec p1 p2 hwt hg1 5 0 0 0 0 false _ 0 false (by omega)


set_option maxRecDepth 4000 in
set_option maxHeartbeats 2000000 in
theorem node_look (D : Nat) (T : Value) (tl pos : Nat) (live : Bool) (w : World) (hd : DecAt w D T pos) (ht : Toks w D T tl) (hl : tl ≤ 65536) (hp : pos < tl) (tb c : Nat) (hT : T = .slice (some ⟨tb, 0, none⟩) tl tl) (htc : w.cell? ⟨tb, pos, none⟩ = some (.int .u8 c)) (hc : c < 256) (ih : Later D T tl pos) (hk : c % 12 = 6) :
    Calls Try.prog 27 #[.pointer (some ⟨D, 0, none⟩), .bool live] w fun e w' => NodeEnd w D T tl pos e w' := by
  have HD : Hid (DecAt w D T pos) := hd
  have HT : Hid (Toks w D T tl) := ht
  obtain ⟨q2, q3, q4, q5, q6, q7, hd⟩ := hd
  have c0 : w.cell? ⟨D, 0, none⟩ = some T := row_cell hd rfl
  have c1 : w.cell? ⟨D, 1, none⟩ = some (.int .i64 pos) := row_cell hd rfl
  have f1 : w.frozen? ⟨D, 1, none⟩ = false := row_frozen hd
  clear hd ht q2 q3 q4 q5 q6 q7
  subst hT
  have hlt : (pos : Int) < (tl : Int) := by omega
  go_enter Try.func27, Try.ntmps27
  go_wp2
  go_quiet (fail)
  go_wp2
  go_quiet (fail)
  go_upto_region 6 with fail
  go_cut [5, 6, 7] from 21 (fun s5 s6 s7 wx => s5 = .int .u8 c ∧ s6 = .int .u8 6 ∧ (∃ q : Int, 0 ≤ q ∧ q ≤ 21 ∧ s7 = .int .i64 q) ∧ Read w wx D (.slice (some ⟨tb, 0, none⟩) tl tl) pos)
  case first =>
    go_wp2_with fail
    go_meet
    exact ⟨rfl, congrArg (Value.int .u8) (by omega), ⟨_, by omega, by omega, rfl⟩, read_of HD.out⟩
  case rest =>
  obtain ⟨rfl, rfl, ⟨q, hq0, hq1, rfl⟩, hdx, hgx, hzx⟩ := hcut
  have HG : Hid (w.grownBy wc (some D)) := hgx
  have HDX : Hid (DecAt wc D (.slice (some ⟨tb, 0, none⟩) tl tl) (pos + 1)) := hdx
  obtain ⟨q2, q3, q4, q5, q6, q7, hd⟩ := hdx
  clear c0 c1 f1 htc hlt
  have c2 : wc.cell? ⟨D, 2, none⟩ = some (.int .i64 q2) := row_cell hd rfl
  have c3 : wc.cell? ⟨D, 3, none⟩ = some (.int .i64 q3) := row_cell hd rfl
  have c4 : wc.cell? ⟨D, 4, none⟩ = some (.int .i64 q4) := row_cell hd rfl
  have c5 : wc.cell? ⟨D, 5, none⟩ = some (.int .i64 q5) := row_cell hd rfl
  have c6 : wc.cell? ⟨D, 6, none⟩ = some (.int .i64 q6) := row_cell hd rfl
  have c7 : wc.cell? ⟨D, 7, none⟩ = some (.int .i64 q7) := row_cell hd rfl
  have f2 : wc.frozen? ⟨D, 2, none⟩ = false := row_frozen hd
  have f3 : wc.frozen? ⟨D, 3, none⟩ = false := row_frozen hd
  have f4 : wc.frozen? ⟨D, 4, none⟩ = false := row_frozen hd
  have f5 : wc.frozen? ⟨D, 5, none⟩ = false := row_frozen hd
  have f6 : wc.frozen? ⟨D, 6, none⟩ = false := row_frozen hd
  have f7 : wc.frozen? ⟨D, 7, none⟩ = false := row_frozen hd
  have hDl : D < wc.heap.size := heap_lt hd
  clear hd hgx
  have HI : Hid (Later D (.slice (some ⟨tb, 0, none⟩) tl tl) tl pos) := ih
  clear ih
  cases live
  · go_wp2_with fail
    refine (HI.out (pos + 1) false _ (by omega) (by omega) (HDX.out) (HT.out.kept (HG.out))).mono ?_
    rintro e w1 ⟨a, k, b, v, p, rfl, hnd, hdec, p1, p2, hwt, hg1⟩
    go_wp2_with (go_at_call 29; refine (make_any _ _ _ _ _ _ _ _ _ _ _ _ _).mono ?_; rintro e w' ⟨rfl, rfl⟩)
    go_ret
    exact one_fin HG.out hnd hdec p1 p2 hwt hg1 6 0 0 0 0 false 0 0 _ (by omega)
  · go_wp2_with fail
    refine (HI.out (pos + 1) false _ (by omega) (by omega) (dec_bump HDX.out 6 (by omega) (by omega) _) (HT.out.kept (grown_trans HG.out grown_set))).mono ?_
    rintro e w1 ⟨a, k, b, v, p, rfl, hnd, hdec, p1, p2, hwt, hg1⟩
    go_wp2_with (go_at_call 29; refine (make_any _ _ _ _ _ _ _ _ _ _ _ _ _).mono ?_; rintro e w' ⟨rfl, rfl⟩)
    go_ret
    exact one_fin (grown_trans HG.out grown_set) hnd hdec p1 p2 hwt hg1 6 0 0 0 0 false 0 0 _ (by omega)


set_option maxRecDepth 4000 in
set_option maxHeartbeats 2000000 in
theorem node_repeat (D : Nat) (T : Value) (tl pos : Nat) (live : Bool) (w : World) (hd : DecAt w D T pos) (ht : Toks w D T tl) (hl : tl ≤ 65536) (hp : pos < tl) (tb c : Nat) (hT : T = .slice (some ⟨tb, 0, none⟩) tl tl) (htc : w.cell? ⟨tb, pos, none⟩ = some (.int .u8 c)) (hc : c < 256) (ih : Later D T tl pos) (hk : c % 12 = 4) :
    Calls Try.prog 27 #[.pointer (some ⟨D, 0, none⟩), .bool live] w fun e w' => NodeEnd w D T tl pos e w' := by
  have HD : Hid (DecAt w D T pos) := hd
  have HT : Hid (Toks w D T tl) := ht
  obtain ⟨q2, q3, q4, q5, q6, q7, hd⟩ := hd
  have c0 : w.cell? ⟨D, 0, none⟩ = some T := row_cell hd rfl
  have c1 : w.cell? ⟨D, 1, none⟩ = some (.int .i64 pos) := row_cell hd rfl
  have f1 : w.frozen? ⟨D, 1, none⟩ = false := row_frozen hd
  clear hd ht q2 q3 q4 q5 q6 q7
  subst hT
  have hlt : (pos : Int) < (tl : Int) := by omega
  go_enter Try.func27, Try.ntmps27
  go_wp2
  go_quiet (fail)
  go_wp2
  go_quiet (fail)
  go_upto_region 6 with fail
  go_cut [5, 6, 7] from 21 (fun s5 s6 s7 wx => s5 = .int .u8 c ∧ s6 = .int .u8 4 ∧ (∃ q : Int, 0 ≤ q ∧ q ≤ 21 ∧ s7 = .int .i64 q) ∧ Read w wx D (.slice (some ⟨tb, 0, none⟩) tl tl) pos)
  case first =>
    go_wp2_with fail
    go_meet
    exact ⟨rfl, congrArg (Value.int .u8) (by omega), ⟨_, by omega, by omega, rfl⟩, read_of HD.out⟩
  case rest =>
  obtain ⟨rfl, rfl, ⟨q, hq0, hq1, rfl⟩, hdx, hgx, hzx⟩ := hcut
  have HG : Hid (w.grownBy wc (some D)) := hgx
  have HDX : Hid (DecAt wc D (.slice (some ⟨tb, 0, none⟩) tl tl) (pos + 1)) := hdx
  obtain ⟨q2, q3, q4, q5, q6, q7, hd⟩ := hdx
  clear c0 c1 f1 htc hlt
  have c2 : wc.cell? ⟨D, 2, none⟩ = some (.int .i64 q2) := row_cell hd rfl
  have c3 : wc.cell? ⟨D, 3, none⟩ = some (.int .i64 q3) := row_cell hd rfl
  have c4 : wc.cell? ⟨D, 4, none⟩ = some (.int .i64 q4) := row_cell hd rfl
  have c5 : wc.cell? ⟨D, 5, none⟩ = some (.int .i64 q5) := row_cell hd rfl
  have c6 : wc.cell? ⟨D, 6, none⟩ = some (.int .i64 q6) := row_cell hd rfl
  have c7 : wc.cell? ⟨D, 7, none⟩ = some (.int .i64 q7) := row_cell hd rfl
  have f2 : wc.frozen? ⟨D, 2, none⟩ = false := row_frozen hd
  have f3 : wc.frozen? ⟨D, 3, none⟩ = false := row_frozen hd
  have f4 : wc.frozen? ⟨D, 4, none⟩ = false := row_frozen hd
  have f5 : wc.frozen? ⟨D, 5, none⟩ = false := row_frozen hd
  have f6 : wc.frozen? ⟨D, 6, none⟩ = false := row_frozen hd
  have f7 : wc.frozen? ⟨D, 7, none⟩ = false := row_frozen hd
  have hDl : D < wc.heap.size := heap_lt hd
  clear hd hgx
  have HI : Hid (Later D (.slice (some ⟨tb, 0, none⟩) tl tl) tl pos) := ih
  clear ih
  cases live
  · go_wp2_with fail
    refine (HI.out (pos + 1) false _ (by omega) (by omega) (HDX.out) (HT.out.kept (HG.out))).mono ?_
    rintro e w1 ⟨a, k, b, v, p, rfl, hnd, hdec, p1, p2, hwt, hg1⟩
    have HDE : Hid (DecAt w1 D (.slice (some ⟨tb, 0, none⟩) tl tl) p) := hdec
    obtain ⟨g2, g3, g4, g5, g6, g7, hd1⟩ := hdec
    have e2 : w1.cell? ⟨D, 2, none⟩ = some (.int .i64 g2) := row_cell hd1 rfl
    have hD1 : D < w1.heap.size := heap_lt hd1
    clear hd1 c2 c3 c4 c5 c6 c7 f2 f3 f4 f5 f6 f7 hDl
    go_wp2_with (go_at_call 29; refine (make_any _ _ _ _ _ _ _ _ _ _ _ _ _).mono ?_; rintro e w' ⟨rfl, rfl⟩)
    go_ret
    exact one_fin HG.out hnd HDE.out p1 p2 hwt hg1 4 _ 0 0 _ _ _ _ false (by omega)
  · by_cases hm : q / 3 % 4 = 1
    · have hm' : q / 3 % 4 - 1 = 0 := by omega
      have hm2 : (q / 3 % 4 - 1 != 0) = false := by simp [hm']
      clear hm hm'
      go_wp2_with fail
      refine (HI.out (pos + 1) false _ (by omega) (by omega) (HDX.out) (HT.out.kept (HG.out))).mono ?_
      rintro e w1 ⟨a, k, b, v, p, rfl, hnd, hdec, p1, p2, hwt, hg1⟩
      have HDE : Hid (DecAt w1 D (.slice (some ⟨tb, 0, none⟩) tl tl) p) := hdec
      obtain ⟨g2, g3, g4, g5, g6, g7, hd1⟩ := hdec
      have e2 : w1.cell? ⟨D, 2, none⟩ = some (.int .i64 g2) := row_cell hd1 rfl
      have hD1 : D < w1.heap.size := heap_lt hd1
      clear hd1 c2 c3 c4 c5 c6 c7 f2 f3 f4 f5 f6 f7 hDl
      go_wp2_with (go_at_call 29; refine (make_any _ _ _ _ _ _ _ _ _ _ _ _ _).mono ?_; rintro e w' ⟨rfl, rfl⟩)
      go_ret
      exact one_fin HG.out hnd HDE.out p1 p2 hwt hg1 4 _ 0 0 _ _ _ _ false (by omega)
    · have hm2 : (q / 3 % 4 - 1 != 0) = true := by simp; omega
      clear hm
      go_wp2_with fail
      refine (HI.out (pos + 1) true _ (by omega) (by omega) (dec_bump HDX.out 7 (by omega) (by omega) _) (HT.out.kept (grown_trans HG.out grown_set))).mono ?_
      rintro e w1 ⟨a, k, b, v, p, rfl, hnd, hdec, p1, p2, hwt, hg1⟩
      have HDE : Hid (DecAt w1 D (.slice (some ⟨tb, 0, none⟩) tl tl) p) := hdec
      obtain ⟨g2, g3, g4, g5, g6, g7, hd1⟩ := hdec
      have e2 : w1.cell? ⟨D, 2, none⟩ = some (.int .i64 g2) := row_cell hd1 rfl
      have hD1 : D < w1.heap.size := heap_lt hd1
      clear hd1 c2 c3 c4 c5 c6 c7 f2 f3 f4 f5 f6 f7 hDl
      go_wp2_with (go_at_call 29; refine (make_any _ _ _ _ _ _ _ _ _ _ _ _ _).mono ?_; rintro e w' ⟨rfl, rfl⟩)
      go_ret
      exact one_fin (grown_trans HG.out grown_set) hnd HDE.out p1 p2 hwt hg1 4 _ 0 0 _ _ _ _ false (by omega)

end Go.Proofs.Qxb6001165a
