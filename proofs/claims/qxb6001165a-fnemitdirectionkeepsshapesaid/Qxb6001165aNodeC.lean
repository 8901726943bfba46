/-
  THE DECODER's node at a token with several subs: concat, alternation.
-/
import Derived.Test.Qxb6001165aNodeB
namespace Go.Proofs.Qxb6001165a
open Go.RowKit

theorem Try.info25 : (Try.prog.info? 25).map (fun i => (i.zero, i.size, i.bytes)) = some (some (.pointer none), 1, 8) := by kernel_rfl
def ptrs (cs : List (Nat × Bool × (Nat → Nat))) : List Value := cs.map fun c => .pointer (some ⟨c.1, 0, none⟩)

theorem grown_row {w w1 w2 : World} {D R : Nat} (h : w.grownBy w1 (some D)) (h' : w1.grownBy w2 (some R)) (hR : w.heap.size ≤ R) : w.grownBy w2 (some D) :=
  ⟨h'.os.trans h.os, h'.tape.trans h.tape, h'.output.trans h.output, Nat.le_trans h.size h'.size, fun k hk hne => (h'.block k (Nat.lt_of_lt_of_le hk h.size) (fun e => by cases e; omega)).trans (h.block k hk hne)⟩
theorem grown_none {w w1 : World} {D : Nat} (h : w.grownBy w1 none) : w.grownBy w1 (some D) := ⟨h.os, h.tape, h.output, h.size, fun k hk _ => h.block k hk (fun e => by cases e)⟩
theorem dec_row {w w' : World} {D R pos : Nat} {T : Value} (h : DecAt w D T pos) (hg : w.grownBy w' (some R)) (hR : D ≠ R) : DecAt w' D T pos := by
  obtain ⟨q2, q3, q4, q5, q6, q7, hd⟩ := h
  exact ⟨q2, q3, q4, q5, q6, q7, (hg.block D (heap_lt hd) (fun e => hR (Option.some.inj e))).trans hd⟩
theorem dec_none {w w' : World} {D pos : Nat} {T : Value} (h : DecAt w D T pos) (hg : w.grownBy w' none) : DecAt w' D T pos := by
  obtain ⟨q2, q3, q4, q5, q6, q7, hd⟩ := h
  exact ⟨q2, q3, q4, q5, q6, q7, (hg.block D (heap_lt hd) (fun e => by cases e)).trans hd⟩

theorem wt_snoc : ∀ (vs : List (Nat → Nat)) (v : Nat → Nat), wt (vsum (vs ++ [v])) = wt (vsum vs) + wt v
  | [], v => by show wt (vadd v vz) = wt vz + wt v; rw [wt_vadd]; have : wt vz = 0 := by decide
                omega
  | u :: vs, v => by
    show wt (vadd u (vsum (vs ++ [v]))) = wt (vadd u (vsum vs)) + wt v
    rw [wt_vadd, wt_vadd, wt_snoc vs v]; omega
theorem wt_scale (n : Nat) : wt (fun i => n * (ve 1 i + ve 2 i)) = n * 2 := by
  simp [wt, ve]; omega
theorem wt_many (kd mx : Int) (vs : List (Nat → Nat)) (hk : kd = 2 ∨ kd = 3) (hn : vs.length ≤ 3) : wt (vecOf kd mx vs) ≤ wt (vsum vs) + 4 := by
  unfold vecOf
  rw [if_neg (by omega), if_neg (by omega)]
  by_cases e : kd = 2
  · rw [if_pos e]; omega
  · rw [if_neg e, if_pos (by omega), wt_vadd, wt_scale]; omega

theorem many_fin {w wr : World} {D tl pos p K R n : Nat} {T : Value} {cs : List (Nat × Bool × (Nat → Nat))} (hR : w.heap.size ≤ R) (hg : w.grownBy wr (some D)) (hown : wr.ownsRow R 25 1 (.slice (some ⟨R, 0, none⟩) n n) n (ptrs cs)) (hcs : cs.length = n)
    (hnd : ∀ c ∈ cs, Nd K wr (R + 1) c.1 c.2.1 c.2.2) (hdec : DecAt wr D T p) (p1 : pos + 1 ≤ p) (p2 : p ≤ tl) (hwt : wt (vsum (cs.map (·.2.2))) ≤ 10 * (p - (pos + 1))) (n1 : 1 ≤ n) (n3 : n ≤ 3)
    (kd : Int) (hk : kd = 2 ∨ kd = 3) :
    NodeEnd w D T tl pos (.returned (.pointer (some ⟨wr.heap.size + 1, 0, none⟩))) ((wr.alloc (SetObj 0 0)).alloc (.cells (NodeCells kd (.slice (some ⟨R, 0, none⟩) n n) wr.heap.size 0 0 false 0 0 false) 81)) := by
  have hlt := (hown.lt R rfl).2
  have hb : Below wr.heap.size wr ((wr.alloc (SetObj 0 0)).alloc (.cells (NodeCells kd (.slice (some ⟨R, 0, none⟩) n n) wr.heap.size 0 0 false 0 0 false) 81)) :=
    ((Below.refl _ _).alloc (Nat.le_refl _) _).alloc (by show wr.heap.size ≤ (wr.heap.push _).size; simp) _
  have hw := wt_many kd 0 (cs.map (·.2.2)) hk (by simp; omega)
  refine ⟨wr.heap.size + 1, K + 1, _, _, p, rfl, ⟨kd, 0, some ⟨R, 0, none⟩, n, n, cs, wr.heap.size, 0, false, 0, 0, false, by have := hg.size; omega, heap_top2 wr _ _, hcs, .inr ⟨R, rfl, hR, Nat.lt_of_lt_of_le hlt hb.size, ?_⟩, ?_, by omega, by omega, ⟨n3, fun h => by omega⟩, fun _ => n1, rfl, rfl, hg.size, 0, 0, heap_mid2 wr _ _⟩, dec_below hdec hb, by omega, p2, by omega, grown_trans hg (grown_below hb)⟩
  · intro i c hi
    have h := hown.cells (g := R) rfl i (.pointer (some ⟨c.1, 0, none⟩)) (by simp [ptrs, hi])
    rw [Addr.add_lit, Nat.zero_add] at h
    exact (hb.cell (p := ⟨R, i, none⟩) hlt).trans h
  · intro c hc
    exact ((hnd c hc).base (by omega)).below hb

/-- One sub more. -/
theorem more_subs {w wr w1 w2 : World} {o : Obj} {D p' K k a R : Nat} {b : Bool} {v : Nat → Nat} {T : Value} {cs : List (Nat × Bool × (Nat → Nat))} (hR : w.heap.size ≤ R) (hRl : R < wr.heap.size) (hDR : D < R)
    (hg : w.grownBy wr (some D)) (hnd : ∀ c ∈ cs, Nd K wr (R + 1) c.1 c.2.1 c.2.2) (h1 : Nd k w1 wr.heap.size a b v) (hdec : DecAt w1 D T p') (hg1 : wr.grownBy w1 (some D)) (hg2 : (w1.alloc o).grownBy w2 (some R)) :
    (∀ c ∈ cs ++ [(a, b, v)], Nd (max K k) w2 (R + 1) c.1 c.2.1 c.2.2) ∧ DecAt w2 D T p' ∧ w.grownBy w2 (some D) := by
  have hba : Below w1.heap.size w1 (w1.alloc o) := (Below.refl _ _).alloc (Nat.le_refl _) o
  refine ⟨?_, dec_row (dec_below hdec hba) hg2 (by omega), grown_row (grown_trans hg (grown_trans hg1 (grown_below hba))) hg2 hR⟩
  intro c hc
  rcases List.mem_append.1 hc with h | h
  · exact ((((hnd c h).grown hg1 (by omega)).below hba).grown hg2 (by omega)).le (Nat.le_max_left _ _)
  · simp at h
    subst h
    exact (((h1.base (by omega)).below hba).grown hg2 (by omega)).le (Nat.le_max_right _ _)

set_option maxRecDepth 4000 in
set_option maxHeartbeats 2000000 in
theorem node_concat (D : Nat) (T : Value) (tl pos : Nat) (live : Bool) (w : World) (hd : DecAt w D T pos) (ht : Toks w D T tl) (hl : tl ≤ 65536) (hp : pos < tl) (tb c : Nat) (hT : T = .slice (some ⟨tb, 0, none⟩) tl tl) (htc : w.cell? ⟨tb, pos, none⟩ = some (.int .u8 c)) (hc : c < 256) (ih : Later D T tl pos) (hk : c % 12 = 2) :
    Calls Try.prog 27 #[.pointer (some ⟨D, 0, none⟩), .bool live] w fun e w' => NodeEnd w D T tl pos e w' := by
  have HD : Hid (DecAt w D T pos) := hd
  have HT : Hid (Toks w D T tl) := ht
  obtain ⟨q2, q3, q4, q5, q6, q7, hd⟩ := hd
  have c0 : w.cell? ⟨D, 0, none⟩ = some T := row_cell hd rfl
  have c1 : w.cell? ⟨D, 1, none⟩ = some (.int .i64 pos) := row_cell hd rfl
  have f1 : w.frozen? ⟨D, 1, none⟩ = false := row_frozen hd
  clear hd ht q2 q3 q4 q5 q6 q7
  subst hT
  have hlt : (pos : Int) < (tl : Int) := by omega
  go_enter Try.func27, Try.ntmps27
  go_wp2
  go_quiet (fail)
  go_wp2
  go_quiet (fail)
  go_upto_region 6 with fail
  go_cut [5, 6, 7] from 21 (fun s5 s6 s7 wx => s5 = .int .u8 c ∧ s6 = .int .u8 2 ∧ (∃ q : Int, 0 ≤ q ∧ q ≤ 21 ∧ s7 = .int .i64 q) ∧ Read w wx D (.slice (some ⟨tb, 0, none⟩) tl tl) pos)
  case first =>
    go_wp2_with fail
    go_meet
    exact ⟨rfl, congrArg (Value.int .u8) (by omega), ⟨_, by omega, by omega, rfl⟩, read_of HD.out⟩
  case rest =>
  obtain ⟨rfl, rfl, ⟨q, hq0, hq1, rfl⟩, hdx, hgx, hzx⟩ := hcut
  have HG : Hid (w.grownBy wc (some D)) := hgx
  have HDX : Hid (DecAt wc D (.slice (some ⟨tb, 0, none⟩) tl tl) (pos + 1)) := hdx
  obtain ⟨q2, q3, q4, q5, q6, q7, hd⟩ := hdx
  clear c0 c1 f1 htc hlt
  have c2 : wc.cell? ⟨D, 2, none⟩ = some (.int .i64 q2) := row_cell hd rfl
  have c3 : wc.cell? ⟨D, 3, none⟩ = some (.int .i64 q3) := row_cell hd rfl
  have c4 : wc.cell? ⟨D, 4, none⟩ = some (.int .i64 q4) := row_cell hd rfl
  have c5 : wc.cell? ⟨D, 5, none⟩ = some (.int .i64 q5) := row_cell hd rfl
  have c6 : wc.cell? ⟨D, 6, none⟩ = some (.int .i64 q6) := row_cell hd rfl
  have c7 : wc.cell? ⟨D, 7, none⟩ = some (.int .i64 q7) := row_cell hd rfl
  have f2 : wc.frozen? ⟨D, 2, none⟩ = false := row_frozen hd
  have f3 : wc.frozen? ⟨D, 3, none⟩ = false := row_frozen hd
  have f4 : wc.frozen? ⟨D, 4, none⟩ = false := row_frozen hd
  have f5 : wc.frozen? ⟨D, 5, none⟩ = false := row_frozen hd
  have f6 : wc.frozen? ⟨D, 6, none⟩ = false := row_frozen hd
  have f7 : wc.frozen? ⟨D, 7, none⟩ = false := row_frozen hd
  have hDl : D < wc.heap.size := heap_lt hd
  clear hd hgx
  have HI : Hid (Later D (.slice (some ⟨tb, 0, none⟩) tl tl) tl pos) := ih
  clear ih c2 c3 c4 c5 c6 c7 f2 f3 f4 f5 f6 f7
  obtain ⟨iE, hiE, hzE0, hzE1, hzE2⟩ := info_parts Try.info25
  obtain ⟨n, hn⟩ : ∃ n : Nat, (n : Int) = 1 + q % 3 := ⟨(1 + q % 3).toNat, by omega⟩
  have n1 : 1 ≤ n := by omega
  have n3 : n ≤ 3 := by omega
  have HN : Hid ((n : Int) = 1 + q % 3) := hn
  clear hn
  go_wp2_with (at_make; refine wpList_make_own _ rfl _ _ 39 rfl wc.heap.size 25 iE (.pointer none) 1 Try.underlying39 hiE hzE0 hzE1 _ _ _ n rfl rfl HN.out.symm ?b2 ?b3 (Nat.le_refl _) ?_)
  case b2 => rw [hzE2]; omega
  case b3 => unfold maxLen; omega
  intro w0 hown0 hgrow0
  go_wp2
  have HR : Hid (w.heap.size ≤ wc.heap.size) := Nat.le_of_eq hzx
  go_loopw [10, 11] (fun sb si wr => ∃ (i : Nat) (cs : List (Nat × Bool × (Nat → Nat))) (p K : Nat), i ≤ n ∧ si = .int .i64 i ∧ cs.length = i ∧ sb = .slice (some ⟨wc.heap.size, 0, none⟩) i n ∧
      wr.ownsRow wc.heap.size 25 1 (.slice (some ⟨wc.heap.size, 0, none⟩) i n) i (ptrs cs) ∧ Hid (∀ c ∈ cs, Nd K wr (wc.heap.size + 1) c.1 c.2.1 c.2.2) ∧ Hid (DecAt wr D (.slice (some ⟨tb, 0, none⟩) tl tl) p) ∧ pos + 1 ≤ p ∧ p ≤ tl ∧
      Hid (wt (vsum (cs.map (·.2.2))) ≤ 10 * (p - (pos + 1))) ∧ Hid (w.grownBy wr (some D)))
    (fun _ si _ => n - (intOf si).toNat)
  case atStart => exact ⟨0, [], pos + 1, 0, by omega, rfl, rfl, rfl, hown0, fun c hc => absurd hc (by simp), dec_none HDX.out hgrow0, Nat.le_refl _, by omega, Nat.zero_le _, grown_trans HG.out (grown_none hgrow0)⟩
  case round =>
    obtain ⟨i, cs, p, K, hi, rfl, hcs, rfl, hown, HC, HE, p1, p2, HW, HG2⟩ := hrel
    have hRl := (hown.lt wc.heap.size rfl).2
    by_cases hlt : i < n
    · have hlt' : (i : Int) < 1 + q % 3 := by have := HN.out; omega
      go_wp2_with fail
      refine (HI.out p live _ (by omega) p2 HE.out (HT.out.kept HG2.out)).mono ?_
      rintro e w1 ⟨a, k, b, v, p', rfl, hnd, hdec, p3, p4, hwt, hg1⟩
      have hown1 := hown.kept hg1 (Or.inr (fun e => absurd (Option.some.inj e) (by show wc.heap.size ≠ D; omega)))
      have HD1 : Hid (DecAt w1 D (.slice (some ⟨tb, 0, none⟩) tl tl) p') := hdec
      have HN1 : Hid (Nd k w1 wr.heap.size a b v) := hnd
      have HG3 : Hid (wr.grownBy w1 (some D)) := hg1
      clear hdec hnd hg1 hown
      go_wp2_with (at_builtin; refine wpList_append_fits _ rfl (.tmp 88) (.tmp 92) 39 rfl wc.heap.size 25 iE 1 Try.underlying39 hiE hzE1 wc.heap.size i n _ rfl (hown1.alloc _) ⟨w1.heap.size, 0, none⟩ 1 1 [.pointer (some ⟨a, 0, none⟩)] rfl rfl (by intro t u ht; match t, ht with | 0, ht => simp at ht; subst ht; simp [Addr.add]) (by intro u hu; simp at hu; subst hu; rfl) (by omega) ?_; intro w2 hown2 hgrow2)
      obtain ⟨x1, x2, x3⟩ := more_subs HR.out hRl hDl HG2.out HC.out HN1.out HD1.out HG3.out hgrow2
      go_roundw
      case rel => exact ⟨i + 1, cs ++ [(a, b, v)], p', max K k, by omega, by go_num, by simp [hcs], rfl, by simpa [ptrs] using hown2, x1, x2, by omega, p4, by show wt _ ≤ _; rw [List.map_append]; have h := wt_snoc (cs.map (·.2.2)) v; have h2 := HW.out; simp only [List.map_cons, List.map_nil]; omega, x3⟩
      case measure => simp [intOf]; omega
    · obtain rfl : i = n := by omega
      have hlt' : ¬ ((i : Int) < 1 + q % 3) := by have := HN.out; omega
      go_wp2_with (go_at_call 29; refine (make_any _ _ _ _ _ _ _ _ _ _ _ _ _).mono ?_; rintro e w' ⟨rfl, rfl⟩)
      go_ret
      exact many_fin HR.out HG2.out hown hcs HC.out HE.out p1 p2 HW.out n1 n3 2 (by omega)


set_option maxRecDepth 4000 in
set_option maxHeartbeats 2000000 in
theorem node_alt (D : Nat) (T : Value) (tl pos : Nat) (live : Bool) (w : World) (hd : DecAt w D T pos) (ht : Toks w D T tl) (hl : tl ≤ 65536) (hp : pos < tl) (tb c : Nat) (hT : T = .slice (some ⟨tb, 0, none⟩) tl tl) (htc : w.cell? ⟨tb, pos, none⟩ = some (.int .u8 c)) (hc : c < 256) (ih : Later D T tl pos) (hk : c % 12 = 3) :
    Calls Try.prog 27 #[.pointer (some ⟨D, 0, none⟩), .bool live] w fun e w' => NodeEnd w D T tl pos e w' := by
  have HD : Hid (DecAt w D T pos) := hd
  have HT : Hid (Toks w D T tl) := ht
  obtain ⟨q2, q3, q4, q5, q6, q7, hd⟩ := hd
  have c0 : w.cell? ⟨D, 0, none⟩ = some T := row_cell hd rfl
  have c1 : w.cell? ⟨D, 1, none⟩ = some (.int .i64 pos) := row_cell hd rfl
  have f1 : w.frozen? ⟨D, 1, none⟩ = false := row_frozen hd
  clear hd ht q2 q3 q4 q5 q6 q7
  subst hT
  have hlt : (pos : Int) < (tl : Int) := by omega
  go_enter Try.func27, Try.ntmps27
  go_wp2
  go_quiet (fail)
  go_wp2
  go_quiet (fail)
  go_upto_region 6 with fail
  go_cut [5, 6, 7] from 21 (fun s5 s6 s7 wx => s5 = .int .u8 c ∧ s6 = .int .u8 3 ∧ (∃ q : Int, 0 ≤ q ∧ q ≤ 21 ∧ s7 = .int .i64 q) ∧ Read w wx D (.slice (some ⟨tb, 0, none⟩) tl tl) pos)
  case first =>
    go_wp2_with fail
    go_meet
    exact ⟨rfl, congrArg (Value.int .u8) (by omega), ⟨_, by omega, by omega, rfl⟩, read_of HD.out⟩
  case rest =>
  obtain ⟨rfl, rfl, ⟨q, hq0, hq1, rfl⟩, hdx, hgx, hzx⟩ := hcut
  have HG : Hid (w.grownBy wc (some D)) := hgx
  have HDX : Hid (DecAt wc D (.slice (some ⟨tb, 0, none⟩) tl tl) (pos + 1)) := hdx
  obtain ⟨q2, q3, q4, q5, q6, q7, hd⟩ := hdx
  clear c0 c1 f1 htc hlt
  have c2 : wc.cell? ⟨D, 2, none⟩ = some (.int .i64 q2) := row_cell hd rfl
  have c3 : wc.cell? ⟨D, 3, none⟩ = some (.int .i64 q3) := row_cell hd rfl
  have c4 : wc.cell? ⟨D, 4, none⟩ = some (.int .i64 q4) := row_cell hd rfl
  have c5 : wc.cell? ⟨D, 5, none⟩ = some (.int .i64 q5) := row_cell hd rfl
  have c6 : wc.cell? ⟨D, 6, none⟩ = some (.int .i64 q6) := row_cell hd rfl
  have c7 : wc.cell? ⟨D, 7, none⟩ = some (.int .i64 q7) := row_cell hd rfl
  have f2 : wc.frozen? ⟨D, 2, none⟩ = false := row_frozen hd
  have f3 : wc.frozen? ⟨D, 3, none⟩ = false := row_frozen hd
  have f4 : wc.frozen? ⟨D, 4, none⟩ = false := row_frozen hd
  have f5 : wc.frozen? ⟨D, 5, none⟩ = false := row_frozen hd
  have f6 : wc.frozen? ⟨D, 6, none⟩ = false := row_frozen hd
  have f7 : wc.frozen? ⟨D, 7, none⟩ = false := row_frozen hd
  have hDl : D < wc.heap.size := heap_lt hd
  clear hd hgx
  have HI : Hid (Later D (.slice (some ⟨tb, 0, none⟩) tl tl) tl pos) := ih
  clear ih c2 c3 c4 c5 c6 c7 f2 f3 f4 f5 f6 f7
  obtain ⟨iE, hiE, hzE0, hzE1, hzE2⟩ := info_parts Try.info25
  obtain ⟨n, hn⟩ : ∃ n : Nat, (n : Int) = 1 + q % 3 := ⟨(1 + q % 3).toNat, by omega⟩
  have n1 : 1 ≤ n := by omega
  have n3 : n ≤ 3 := by omega
  have HN : Hid ((n : Int) = 1 + q % 3) := hn
  clear hn
  go_wp2_with (at_make; refine wpList_make_own _ rfl _ _ 39 rfl wc.heap.size 25 iE (.pointer none) 1 Try.underlying39 hiE hzE0 hzE1 _ _ _ n rfl rfl HN.out.symm ?b2 ?b3 (Nat.le_refl _) ?_)
  case b2 => rw [hzE2]; omega
  case b3 => unfold maxLen; omega
  intro w0 hown0 hgrow0
  go_wp2
  have HR : Hid (w.heap.size ≤ wc.heap.size) := Nat.le_of_eq hzx
  go_loopw [10, 11] (fun sb si wr => ∃ (i : Nat) (cs : List (Nat × Bool × (Nat → Nat))) (p K : Nat), i ≤ n ∧ si = .int .i64 i ∧ cs.length = i ∧ sb = .slice (some ⟨wc.heap.size, 0, none⟩) i n ∧
      wr.ownsRow wc.heap.size 25 1 (.slice (some ⟨wc.heap.size, 0, none⟩) i n) i (ptrs cs) ∧ Hid (∀ c ∈ cs, Nd K wr (wc.heap.size + 1) c.1 c.2.1 c.2.2) ∧ Hid (DecAt wr D (.slice (some ⟨tb, 0, none⟩) tl tl) p) ∧ pos + 1 ≤ p ∧ p ≤ tl ∧
      Hid (wt (vsum (cs.map (·.2.2))) ≤ 10 * (p - (pos + 1))) ∧ Hid (w.grownBy wr (some D)))
    (fun _ si _ => n - (intOf si).toNat)
  case atStart => exact ⟨0, [], pos + 1, 0, by omega, rfl, rfl, rfl, hown0, fun c hc => absurd hc (by simp), dec_none HDX.out hgrow0, Nat.le_refl _, by omega, Nat.zero_le _, grown_trans HG.out (grown_none hgrow0)⟩
  case round =>
    obtain ⟨i, cs, p, K, hi, rfl, hcs, rfl, hown, HC, HE, p1, p2, HW, HG2⟩ := hrel
    have hRl := (hown.lt wc.heap.size rfl).2
    by_cases hlt : i < n
    · have hlt' : (i : Int) < 1 + q % 3 := by have := HN.out; omega
      go_wp2_with fail
      refine (HI.out p live _ (by omega) p2 HE.out (HT.out.kept HG2.out)).mono ?_
      rintro e w1 ⟨a, k, b, v, p', rfl, hnd, hdec, p3, p4, hwt, hg1⟩
      have hown1 := hown.kept hg1 (Or.inr (fun e => absurd (Option.some.inj e) (by show wc.heap.size ≠ D; omega)))
      have HD1 : Hid (DecAt w1 D (.slice (some ⟨tb, 0, none⟩) tl tl) p') := hdec
      have HN1 : Hid (Nd k w1 wr.heap.size a b v) := hnd
      have HG3 : Hid (wr.grownBy w1 (some D)) := hg1
      clear hdec hnd hg1 hown
      go_wp2_with (at_builtin; refine wpList_append_fits _ rfl (.tmp 88) (.tmp 92) 39 rfl wc.heap.size 25 iE 1 Try.underlying39 hiE hzE1 wc.heap.size i n _ rfl (hown1.alloc _) ⟨w1.heap.size, 0, none⟩ 1 1 [.pointer (some ⟨a, 0, none⟩)] rfl rfl (by intro t u ht; match t, ht with | 0, ht => simp at ht; subst ht; simp [Addr.add]) (by intro u hu; simp at hu; subst hu; rfl) (by omega) ?_; intro w2 hown2 hgrow2)
      obtain ⟨x1, x2, x3⟩ := more_subs HR.out hRl hDl HG2.out HC.out HN1.out HD1.out HG3.out hgrow2
      go_roundw
      case rel => exact ⟨i + 1, cs ++ [(a, b, v)], p', max K k, by omega, by go_num, by simp [hcs], rfl, by simpa [ptrs] using hown2, x1, x2, by omega, p4, by show wt _ ≤ _; rw [List.map_append]; have h := wt_snoc (cs.map (·.2.2)) v; have h2 := HW.out; simp only [List.map_cons, List.map_nil]; omega, x3⟩
      case measure => simp [intOf]; omega
    · obtain rfl : i = n := by omega
      have hlt' : ¬ ((i : Int) < 1 + q % 3) := by have := HN.out; omega
      go_wp2_with (go_at_call 29; refine (make_any _ _ _ _ _ _ _ _ _ _ _ _ _).mono ?_; rintro e w' ⟨rfl, rfl⟩)
      go_ret
      exact many_fin HR.out HG2.out hown hcs HC.out HE.out p1 p2 HW.out n1 n3 3 (by omega)

end Go.Proofs.Qxb6001165a
