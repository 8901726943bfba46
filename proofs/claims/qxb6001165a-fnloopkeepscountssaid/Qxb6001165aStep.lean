/-
  THE WALK of ZZLoopStep.
-/
import Derived.Test.Qxb6001165aLoop
namespace Go.Proofs.Qxb6001165a
open Go.RowKit

theorem Try.info67 : (Try.prog.info? 67).map (fun i => (i.zero, i.size, i.bytes)) = some (some (.agg #[.int .i64 0, .int .i64 0, .bool false, .int .i64 0, .int .i64 0]), 5, 40) := by kernel_rfl
theorem Try.info3 : (Try.prog.info? 3).map (fun i => (i.zero, i.size, i.bytes)) = some (some (.int .i64 0), 1, 8) := by kernel_rfl

theorem row_some {w : World} {base e size g n cap : Nat} {xs : List Value} (h : w.ownsRow base e size (.slice (some ⟨g, 0, none⟩) n cap) n xs) (j : Nat) (hj : j < n * size) : ∃ v, w.cell? ⟨g, j, none⟩ = some v := by
  rw [h.cellAt j hj]
  have hl : j < xs.length := by rw [h.1]; exact hj
  exact ⟨_, List.getElem?_eq_getElem hl⟩

/-- The loops' row is filled in. -/
def RowIn (w wx : World) (r : Nat) (mn mx : Int) (gr : Bool) : Prop :=
  wx.cell? ⟨w.heap.size, r * 5, none⟩ = some (.int .i64 mn) ∧ wx.cell? ⟨w.heap.size, r * 5 + 1, none⟩ = some (.int .i64 mx) ∧ wx.cell? ⟨w.heap.size, r * 5 + 2, none⟩ = some (.bool gr) ∧
  wx.cell? ⟨w.heap.size, r * 5 + 3, none⟩ = some (.int .i64 0) ∧ wx.cell? ⟨w.heap.size, r * 5 + 4, none⟩ = some (.int .i64 0) ∧ Below w.heap.size w wx ∧ w.heap.size < wx.heap.size

theorem row_in {w w1 : World} (r : Nat) {mn mx : Int} {gr : Bool} {v0 v1 v2 v3 v4 : Value} (hB : Below w.heap.size w w1) (hsz : w.heap.size < w1.heap.size)
    (c0 : w1.cell? ⟨w.heap.size, r * 5, none⟩ = some v0) (c1 : w1.cell? ⟨w.heap.size, r * 5 + 1, none⟩ = some v1) (c2 : w1.cell? ⟨w.heap.size, r * 5 + 2, none⟩ = some v2)
    (c3 : w1.cell? ⟨w.heap.size, r * 5 + 3, none⟩ = some v3) (c4 : w1.cell? ⟨w.heap.size, r * 5 + 4, none⟩ = some v4) :
    RowIn w (((((w1.setCell ⟨w.heap.size, r * 5, none⟩ (.int .i64 mn)).setCell ⟨w.heap.size, r * 5 + 1, none⟩ (.int .i64 mx)).setCell ⟨w.heap.size, r * 5 + 2, none⟩ (.bool gr)).setCell ⟨w.heap.size, r * 5 + 3, none⟩ (.int .i64 0)).setCell ⟨w.heap.size, r * 5 + 4, none⟩ (.int .i64 0)) r mn mx gr := by
  refine ⟨by go_simp, by go_simp, by go_simp, by go_simp, by go_simp, ((((hB.setCell (Nat.le_refl _) _).setCell (Nat.le_refl _) _).setCell (Nat.le_refl _) _).setCell (Nat.le_refl _) _).setCell (Nat.le_refl _) _, ?_⟩
  simpa [World.setCell] using hsz

abbrev ProgObj (w : World) (r : Nat) : Obj := .cells #[.slice none 0 0, .slice (some ⟨w.heap.size, 0, none⟩) (r + 1) (r + 1), .slice none 0 0, .int .i64 0, .bool false] 56
abbrev MachObj (wc : World) : Obj := .cells #[.pointer (some ⟨wc.heap.size, 0, none⟩), .string ⟨#[]⟩, .slice none 0 0, .slice none 0 0, .pointer none] 73

/-- All that the loop reads, but for the count and the instruction. -/
def Ready (w wc wx : World) (r : Nat) (mn mx : Int) (gr : Bool) : Prop :=
  wx.cell? ⟨wc.heap.size + 1, 0, none⟩ = some (.pointer (some ⟨wc.heap.size, 0, none⟩)) ∧ wx.cell? ⟨wc.heap.size + 1, 2, none⟩ = some (.slice (some ⟨wc.heap.size + 1 + 1, 0, none⟩) (3 + 2 * r + 1) (3 + 2 * r + 1)) ∧
  wx.cell? ⟨wc.heap.size + 1, 3, none⟩ = some (.slice none 0 0) ∧ wx.frozen? ⟨wc.heap.size + 1, 3, none⟩ = false ∧
  wx.cell? ⟨wc.heap.size, 1, none⟩ = some (.slice (some ⟨w.heap.size, 0, none⟩) (r + 1) (r + 1)) ∧ wx.cell? ⟨wc.heap.size, 3, none⟩ = some (.int .i64 0) ∧
  wx.cell? ⟨w.heap.size, r * 5, none⟩ = some (.int .i64 mn) ∧ wx.cell? ⟨w.heap.size, r * 5 + 1, none⟩ = some (.int .i64 mx) ∧ wx.cell? ⟨w.heap.size, r * 5 + 2, none⟩ = some (.bool gr) ∧
  wx.cell? ⟨w.heap.size, r * 5 + 3, none⟩ = some (.int .i64 0) ∧ wx.cell? ⟨w.heap.size, r * 5 + 4, none⟩ = some (.int .i64 0) ∧
  (∃ v, wx.cell? ⟨wc.heap.size + 1 + 1, 3 + 2 * r, none⟩ = some v) ∧ wx.frozen? ⟨wc.heap.size + 1 + 1, 3 + 2 * r, none⟩ = false ∧ Below w.heap.size w wx ∧ wc.heap.size + 1 + 1 < wx.heap.size

theorem size2 (wc : World) (A B : Obj) : ((wc.alloc A).alloc B).heap.size = wc.heap.size + 1 + 1 := by show ((wc.heap.push A).push B).size = _; simp
theorem size1 (wc : World) (A : Obj) : (wc.alloc A).heap.size = wc.heap.size + 1 := by show (wc.heap.push A).size = _; simp

theorem made_cell {w wc w2 : World} {r : Nat} (hg : ((wc.alloc (ProgObj w r)).alloc (MachObj wc)).grownBy w2 none) {a : Addr} {v : Value} (h : ((wc.alloc (ProgObj w r)).alloc (MachObj wc)).cell? a = some v) : w2.cell? a = some v := hg.cell h (fun e => by cases e)
theorem made_frozen {W w2 : World} (hg : W.grownBy w2 none) {a : Addr} (h : a.block < W.heap.size) : w2.frozen? a = W.frozen? a := World.frozen?_of_block (hg.block a.block h (fun e => by cases e))

theorem mach_cell (w wc : World) (r k : Nat) : ((wc.alloc (ProgObj w r)).alloc (MachObj wc)).cell? ⟨wc.heap.size + 1, k, none⟩ = (#[Value.pointer (some ⟨wc.heap.size, 0, none⟩), .string ⟨#[]⟩, .slice none 0 0, .slice none 0 0, .pointer none] : Array Value)[k]? := by
  rw [← size1 wc (ProgObj w r), World.cell?_alloc_at _ _ _ _ rfl]
theorem mach_frozen (w wc : World) (r k : Nat) : ((wc.alloc (ProgObj w r)).alloc (MachObj wc)).frozen? ⟨wc.heap.size + 1, k, none⟩ = false := by
  rw [← size1 wc (ProgObj w r)]; exact World.frozen?_alloc_at _ _ _ _ rfl
theorem prog_cell (w wc : World) (r k : Nat) : ((wc.alloc (ProgObj w r)).alloc (MachObj wc)).cell? ⟨wc.heap.size, k, none⟩ = (#[Value.slice none 0 0, .slice (some ⟨w.heap.size, 0, none⟩) (r + 1) (r + 1), .slice none 0 0, .int .i64 0, .bool false] : Array Value)[k]? := by
  rw [World.cell?_alloc_past _ _ _ (by rw [size1]; exact Nat.lt_succ_self _), World.cell?_alloc_at _ _ _ _ rfl]
theorem old_cell (w wc : World) (r : Nat) {a : Addr} (h : a.block < wc.heap.size) : ((wc.alloc (ProgObj w r)).alloc (MachObj wc)).cell? a = wc.cell? a :=
  (((Below.refl wc.heap.size wc).alloc (Nat.le_refl _) (ProgObj w r)).alloc (by rw [size1]; omega) (MachObj wc)).cell h

theorem made_facts {w wc w2 : World} {r : Nat} (hg : ((wc.alloc (ProgObj w r)).alloc (MachObj wc)).grownBy w2 none) :
    w2.cell? ⟨wc.heap.size + 1, 2, none⟩ = some (.slice none 0 0) ∧ w2.frozen? ⟨wc.heap.size + 1, 2, none⟩ = false :=
  ⟨made_cell hg (mach_cell w wc r 2), (made_frozen hg (by rw [size2]; show wc.heap.size + 1 < _; omega)).trans (mach_frozen w wc r 2)⟩

theorem ready_of {w wc w2 : World} {r : Nat} {mn mx : Int} {gr : Bool} {xs : List Value} (hrow : RowIn w wc r mn mx gr)
    (hown : w2.ownsRow (wc.heap.size + 2) 3 1 (.slice (some ⟨((wc.alloc (ProgObj w r)).alloc (MachObj wc)).heap.size, 0, none⟩) (3 + 2 * r + 1) (3 + 2 * r + 1)) (3 + 2 * r + 1) xs)
    (hg : ((wc.alloc (ProgObj w r)).alloc (MachObj wc)).grownBy w2 none) :
    Ready w wc (w2.setCell ⟨wc.heap.size + 1, 2, none⟩ (.slice (some ⟨wc.heap.size + 1 + 1, 0, none⟩) (3 + 2 * r + 1) (3 + 2 * r + 1))) r mn mx gr := by
  obtain ⟨p0, p1, p2, p3, p4, hB2, hsz2⟩ := hrow
  rw [size2] at hown
  have ne : ∀ {a : Addr}, a ≠ ⟨wc.heap.size + 1, 2, none⟩ → ∀ v, (w2.setCell ⟨wc.heap.size + 1, 2, none⟩ v).cell? a = w2.cell? a := fun h v => World.cell?_setCell_other _ _ _ _ (Ne.symm h)
  have hlt := (hown.lt (wc.heap.size + 1 + 1) rfl).2
  have hBW : Below w.heap.size w ((wc.alloc (ProgObj w r)).alloc (MachObj wc)) := (hB2.alloc (by omega) _).alloc (by rw [size1]; omega) _
  have hBw : Below w.heap.size w w2 := hBW.grown hg (by rw [size2]; omega) (fun k h => by cases h)
  have old : ∀ {k : Nat} {v : Value}, wc.cell? ⟨w.heap.size, k, none⟩ = some v → w2.cell? ⟨w.heap.size, k, none⟩ = some v := fun {k v} h => made_cell hg ((old_cell w wc r (a := ⟨w.heap.size, k, none⟩) hsz2).trans h)
  refine ⟨?_, ?_, ?_, ?_, ?_, ?_, ?_, ?_, ?_, ?_, ?_, ?_, ?_, hBw.setCell (by show w.heap.size ≤ wc.heap.size + 1; omega) _, by simpa [World.setCell] using hlt⟩
  · rw [ne (by simp)]; exact made_cell hg (mach_cell w wc r 0)
  · exact World.cell?_setCell_same _ _ _ (made_cell hg (mach_cell w wc r 2))
  · rw [ne (by simp)]; exact made_cell hg (mach_cell w wc r 3)
  · rw [World.frozen?_setCell]; exact (made_frozen hg (by rw [size2]; show wc.heap.size + 1 < _; omega)).trans (mach_frozen w wc r 3)
  · rw [ne (by simp)]; exact made_cell hg (prog_cell w wc r 1)
  · rw [ne (by simp)]; exact made_cell hg (prog_cell w wc r 3)
  · rw [ne (by simp)]; exact old p0
  · rw [ne (by simp)]; exact old p1
  · rw [ne (by simp)]; exact old p2
  · rw [ne (by simp)]; exact old p3
  · rw [ne (by simp)]; exact old p4
  · obtain ⟨v, hv⟩ := row_some hown (3 + 2 * r) (by omega)
    exact ⟨v, by rw [ne (by simp)]; exact hv⟩
  · rw [World.frozen?_setCell]; exact hown.frozenAt _

abbrev InstObj (r : Nat) (x y : Int) : Obj := .cells #[.int .u8 9, .bool false, .int .i64 r, .int .i64 x, .int .i64 y, .slice none 0 0] 63
/-- The world in which the loop is called. -/
abbrev CallW (wa wc : World) (r : Nat) (dn x y : Int) : World := (wc.setCell ⟨wa.heap.size + 1 + 1, 3 + 2 * r, none⟩ (.int .i64 dn)).alloc (InstObj r x y)

theorem callw_cell {wa wc : World} {r : Nat} {dn x y : Int} (hsz : wa.heap.size + 1 + 1 < wc.heap.size) {a : Addr} {v : Value} (ha : a.block < wa.heap.size + 1 + 1) (h : wc.cell? a = some v) : (CallW wa wc r dn x y).cell? a = some v := by
  have hb : Below (wa.heap.size + 1 + 1) wc (CallW wa wc r dn x y) := ((Below.refl _ wc).setCell (p := ⟨wa.heap.size + 1 + 1, 3 + 2 * r, none⟩) (Nat.le_refl _) (.int .i64 dn)).alloc (by show wa.heap.size + 1 + 1 ≤ (wc.setCell _ _).heap.size; simp [World.setCell]; omega) (InstObj r x y)
  exact (hb.cell ha).trans h
theorem callw_size (wa wc : World) (r : Nat) (dn x y : Int) : (CallW wa wc r dn x y).heap.size = wc.heap.size + 1 := by
  rw [size1]; simp [World.setCell]
theorem callw_inst (wa wc : World) (r : Nat) (dn x y : Int) (k : Nat) : (CallW wa wc r dn x y).cell? ⟨wc.heap.size, k, none⟩ = (#[Value.int .u8 9, .bool false, .int .i64 r, .int .i64 x, .int .i64 y, .slice none 0 0] : Array Value)[k]? := by
  have e : (wc.setCell ⟨wa.heap.size + 1 + 1, 3 + 2 * r, none⟩ (.int .i64 dn)).heap.size = wc.heap.size := by simp [World.setCell]
  rw [← e, World.cell?_alloc_at _ _ _ _ rfl]

theorem loop_call {w wa wc : World} {r : Nat} {mn mx : Int} {gr : Bool} {dn x y ps : Int} (hr : r ≤ 1024) (h : Ready w wa wc r mn mx gr) (hsz : w.heap.size < wa.heap.size) :
    Calls Try.prog 32 #[.pointer (some ⟨wa.heap.size + 1, 0, none⟩), .pointer (some ⟨wc.heap.size, 0, none⟩), .int .i64 ps] (CallW wa wc r dn x y) fun e w' =>
      Left (wa.heap.size + 1) mn mx gr dn x y ps e w' ∧ Below (wa.heap.size + 1) (CallW wa wc r dn x y) w' := by
  obtain ⟨q0, q1, q2, q3, q4, q5, t0, t1, t2, t3, t4, ⟨vk, u0⟩, u1, hB3, hsz3⟩ := h
  have z := callw_size wa wc r dn x y
  have l1 : wa.heap.size + 1 < wa.heap.size + 1 + 1 := by omega
  have l0 : wa.heap.size < wa.heap.size + 1 + 1 := by omega
  have lw : w.heap.size < wa.heap.size + 1 + 1 := by omega
  refine loop_any (wa.heap.size + 1) wa.heap.size w.heap.size wc.heap.size (wa.heap.size + 1 + 1) (3 + 2 * r + 1) mn mx gr r dn x y ps _ hr (by omega) (by omega) (by omega) (by omega) (by omega) (by omega)
    (callw_cell hsz3 l1 q0) (callw_cell hsz3 l1 q1) (callw_cell hsz3 l1 q2) ?_ (callw_cell hsz3 l0 q4) (callw_cell hsz3 l0 q5)
    (callw_cell hsz3 lw t0) (callw_cell hsz3 lw t1) (callw_cell hsz3 lw t2) (callw_cell hsz3 lw t3) (callw_cell hsz3 lw t4)
    (callw_inst wa wc r dn x y 2) (callw_inst wa wc r dn x y 3) (callw_inst wa wc r dn x y 4) ?_ (by omega)
  · rw [World.frozen?_alloc_past _ _ _ (by show wa.heap.size + 1 < (wc.setCell _ _).heap.size; simp [World.setCell]; omega), World.frozen?_setCell]; exact q3
  · rw [World.cell?_alloc_past _ _ _ (by show wa.heap.size + 1 + 1 < (wc.setCell _ _).heap.size; simp [World.setCell]; omega)]
    exact World.cell?_setCell_same _ _ _ u0

theorem step_below {w wa wc w3 : World} {r : Nat} {dn x y : Int} (hB3 : Below w.heap.size w wc) (hsz : w.heap.size < wa.heap.size) (hsz3 : wa.heap.size + 1 + 1 < wc.heap.size) (hB4 : Below (wa.heap.size + 1) (CallW wa wc r dn x y) w3) : Below w.heap.size w w3 :=
  ((hB3.setCell (p := ⟨wa.heap.size + 1 + 1, 3 + 2 * r, none⟩) (by show w.heap.size ≤ wa.heap.size + 1 + 1; omega) (.int .i64 dn)).alloc (by show w.heap.size ≤ (wc.setCell _ _).heap.size; simp [World.setCell]; omega) (InstObj r x y)).trans (hB4.mono (by omega))

/-- What ZZLoopStep answers. -/
def StepEnd (mn mx : Int) (gr : Bool) (dn x y ps : Int) (e : Ending) : Prop :=
  (¬ Opn mn mx dn ∧ e = .returned (.tuple #[.int .i64 (if 0 ≤ mx ∧ mx ≤ dn then y else x), .int .i64 0, .int .i64 0, .int .i64 0, .int .i64 0])) ∨
  (Opn mn mx dn ∧ e = .returned (.tuple #[.int .i64 (if gr then x else y), .int .i64 1, .int .i64 (if gr then y else x), .int .i64 ps, .int .i64 (-1)]))

set_option maxRecDepth 4000 in
set_option maxHeartbeats 1000000 in
theorem step_any (mn mx : Int) (gr : Bool) (r : Nat) (dn x y ps : Int) (w : World) (hr : r ≤ 1024) :
    Calls Try.prog 26 #[.int .i64 mn, .int .i64 mx, .bool gr, .int .i64 r, .int .i64 dn, .int .i64 x, .int .i64 y, .int .i64 ps] w fun e w' => StepEnd mn mx gr dn x y ps e ∧ Below w.heap.size w w' := by
  obtain ⟨i0, hi, hz0, hz1, hz2⟩ := info_parts Try.info67
  obtain ⟨i3, hi3, hy0, hy1, hy2⟩ := info_parts Try.info3
  go_enter Try.func26, Try.ntmps26
  go_upto_region 2 with (at_make; refine wpList_make_full _ rfl _ _ 53 rfl w.heap.size 67 i0 (.agg #[.int .i64 0, .int .i64 0, .bool false, .int .i64 0, .int .i64 0]) 5 Try.underlying53 hi hz0 hz1 _ _ _ _ (r + 1) rfl rfl (by omega) (by omega) (by rw [hz2]; omega) (by unfold maxLen; omega) (Nat.le_refl _) ?_; intro w1 hown1 hgrow1)
  obtain ⟨v0, c0⟩ := row_some hown1 (r * 5) (by omega)
  obtain ⟨v1, c1⟩ := row_some hown1 (r * 5 + 1) (by omega)
  obtain ⟨v2, c2⟩ := row_some hown1 (r * 5 + 2) (by omega)
  obtain ⟨v3, c3⟩ := row_some hown1 (r * 5 + 3) (by omega)
  obtain ⟨v4, c4⟩ := row_some hown1 (r * 5 + 4) (by omega)
  have f0 := hown1.frozenAt (r * 5)
  have f1 := hown1.frozenAt (r * 5 + 1)
  have f2 := hown1.frozenAt (r * 5 + 2)
  have f3 := hown1.frozenAt (r * 5 + 3)
  have f4 := hown1.frozenAt (r * 5 + 4)
  have hsz1 : w.heap.size < w1.heap.size := (hown1.lt w.heap.size rfl).2
  have hB1 : Below w.heap.size w w1 := (Below.refl _ _).grown hgrow1 (Nat.le_refl _) (fun k h => by cases h)
  clear hown1 hgrow1
  have g0 : (r : Int) < (r : Int) + 1 := by omega
  go_cut [] from 26 (fun wx => RowIn w wx r mn mx gr)
  case first =>
    go_wp2_with fail
    go_meet
    exact row_in r hB1 hsz1 c0 c1 c2 c3 c4
  case rest =>
  obtain ⟨p0, p1, p2, p3, p4, hB2, hsz2⟩ := hcut
  obtain ⟨wa, rfl⟩ : ∃ wa, wa = wc := ⟨wc, rfl⟩
  clear c0 c1 c2 c3 c4 f0 f1 f2 f3 f4 hsz1 hB1
  go_upto_region 5 with go_in
  go_cut [] from 26 (fun wx => Ready w wa wx r mn mx gr)
  case first =>
    go_wp2_with (at_make; refine wpList_make_full _ rfl _ _ 69 rfl (wa.heap.size + 2) 3 i3 (.int .i64 0) 1 Try.underlying69 hi3 hy0 hy1 _ _ _ _ (3 + 2 * r + 1) rfl rfl (by omega) (by omega) (by rw [hy2]; omega) (by unfold maxLen; omega) (by simp) ?_; intro w2 hown2 hgrow2; obtain ⟨q2, qf⟩ := made_facts hgrow2)
    go_meet
    exact ready_of ⟨p0, p1, p2, p3, p4, hB2, hsz2⟩ hown2 hgrow2
  case rest =>
  have HR : Hid (Ready w wa wc r mn mx gr) := hcut
  obtain ⟨q0, q1, q2, q3, q4, q5, t0, t1, t2, t3, t4, ⟨vk, u0⟩, u1, hB3, hsz3⟩ := hcut
  clear p0 p1 p2 p3 p4 hB2
  go_wp2_with fail
  refine (loop_call hr HR.out hsz2).mono ?_
  rintro e w3 ⟨hL, hB4⟩
  have hB5 := step_below hB3 hsz2 hsz3 hB4
  clear hB3 hB4 HR q0 q1 q2 q3 q4 q5 t0 t1 t2 t3 t4 u0 u1
  rcases hL with ⟨ho, rfl, m3⟩ | ⟨ho, g, cap, rfl, m3, e0, e1, e2⟩
  · obtain ⟨nx, HN⟩ : ∃ nx, Hid ((if 0 ≤ mx ∧ mx ≤ dn then y else x) = nx) := ⟨_, rfl⟩
    rw [HN.out]
    go_wp2
    exact bodyPost_ret (v := .tuple #[.int .i64 nx, .int .i64 0, .int .i64 0, .int .i64 0, .int .i64 0]) (by simp [results, Try.results26, go_sem]) rfl ⟨.inl ⟨ho, by rw [HN.out]⟩, hB5⟩
  · obtain ⟨nx, HN⟩ : ∃ nx, Hid ((if gr = true then x else y) = nx) := ⟨_, rfl⟩
    obtain ⟨pc, HP⟩ : ∃ pc, Hid ((if gr = true then y else x) = pc) := ⟨_, rfl⟩
    rw [HN.out]
    rw [HP.out] at e1
    go_wp2
    exact bodyPost_ret (v := .tuple #[.int .i64 nx, .int .i64 1, .int .i64 pc, .int .i64 ps, .int .i64 (-1)]) (by simp [results, Try.results26, go_sem]) rfl ⟨.inr ⟨ho, by rw [HN.out, HP.out]⟩, hB5.alloc hB5.size _⟩
end Go.Proofs.Qxb6001165a
