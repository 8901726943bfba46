/-
  THE WALK of the law FnAnchoredDecidedByHead.
-/
import Derived.Test.Qxb6001165aClone
namespace Go.Proofs.Qxb6001165a
open Go.RowKit

/-- A node that anchored answers b at. -/
def An (w : World) (p : Nat) (b : Bool) : Prop := ∃ k v, Nd k w 0 p b v
theorem An.below {w w' : World} {p : Nat} {b : Bool} (h : An w p b) (hb : Below w.heap.size w w') : An w' p b := by
  obtain ⟨k, v, h⟩ := h
  exact ⟨k, v, h.below hb⟩

theorem anC {w : World} {p : Nat} {b : Bool} (h : An w p b) : Calls Try.prog 13 #[.pointer (some ⟨p, 0, none⟩)] w fun e w' => e = .returned (.bool b) ∧ w = w' := by
  obtain ⟨k, v, h⟩ := h
  exact zzAnch k w 0 p b v h

/-- A node over the subs cs, in the worlds of zzPair and zzTriple. -/
theorem many_nd {w : World} {k n : Nat} {row : Array Value} (cs : List (Nat × Bool × (Nat → Nat))) (hn : cs.length = n) (hrow : ∀ (i : Nat) (c : Nat × Bool × (Nat → Nat)), cs[i]? = some c → row[i]? = some (Value.pointer (some ⟨c.1, 0, none⟩))) (hnd : ∀ c ∈ cs, Nd k w 0 c.1 c.2.1 c.2.2) (kd : Int) (h0 : 0 ≤ kd) (h1 : kd ≤ 11) (n1 : 1 ≤ n) (n3 : n ≤ 3) :
    Nd (k + 1) (((w.alloc (.cells row 25)).alloc (SetObj 0 0)).alloc (.cells (NodeCells kd (.slice (some ⟨w.heap.size, 0, none⟩) n n) (w.heap.size + 1) 0 0 false 0 0 false) 81)) 0 (w.heap.size + 1 + 1) (anchOf kd (cs.map (·.2.1))) (vecOf kd 0 (cs.map (·.2.2))) := by
  refine ⟨kd, 0, some ⟨w.heap.size, 0, none⟩, n, n, cs, w.heap.size + 1, 0, false, 0, 0, false, Nat.zero_le _, heap_top3 w _ _ _, hn, .inr ⟨w.heap.size, rfl, Nat.zero_le _, by rw [size3]; omega, ?_⟩, ?_, h0, h1, n3, fun _ => n1, rfl, rfl⟩
  · intro i c hi
    exact row_top3 w _ _ _ _ i _ (hrow i c hi)
  · intro c hc
    exact (hnd c hc).below (below3 w _ _ _)

theorem pairC {w : World} {a b : Nat} {x y : Bool} (ha : An w a x) (hb : An w b y) : Calls Try.prog 15 #[.int .u8 2, .pointer (some ⟨a, 0, none⟩), .pointer (some ⟨b, 0, none⟩)] w fun e w' => ∃ p, e = .returned (.pointer (some ⟨p, 0, none⟩)) ∧ An w' p x ∧ Below w.heap.size w w' := by
  obtain ⟨k1, v1, h1⟩ := ha
  obtain ⟨k2, v2, h2⟩ := hb
  refine (pair_any 2 a b w).mono ?_
  rintro e w' ⟨rfl, rfl⟩
  refine ⟨_, rfl, ⟨max k1 k2 + 1, _, many_nd (n := 2) [(a, x, v1), (b, y, v2)] rfl ?_ ?_ 2 (by omega) (by omega) (by omega) (by omega)⟩, below3 w _ _ _⟩
  · intro i c hi
    match i, hi with
    | 0, hi => simp at hi; subst hi; rfl
    | 1, hi => simp at hi; subst hi; rfl
  · intro c hc
    simp at hc
    rcases hc with rfl | rfl
    · exact h1.le (Nat.le_max_left _ _)
    · exact h2.le (Nat.le_max_right _ _)

theorem tripleC {w : World} {a b c : Nat} (ha : An w a true) (hb : An w b true) (hc : An w c true) : Calls Try.prog 19 #[.int .u8 3, .pointer (some ⟨a, 0, none⟩), .pointer (some ⟨b, 0, none⟩), .pointer (some ⟨c, 0, none⟩)] w fun e w' => ∃ p, e = .returned (.pointer (some ⟨p, 0, none⟩)) ∧ An w' p true ∧ Below w.heap.size w w' := by
  obtain ⟨k1, v1, h1⟩ := ha
  obtain ⟨k2, v2, h2⟩ := hb
  obtain ⟨k3, v3, h3⟩ := hc
  refine (triple_any 3 a b c w).mono ?_
  rintro e w' ⟨rfl, rfl⟩
  refine ⟨_, rfl, ⟨max k1 (max k2 k3) + 1, _, many_nd (n := 3) [(a, true, v1), (b, true, v2), (c, true, v3)] rfl ?_ ?_ 3 (by omega) (by omega) (by omega) (by omega)⟩, below3 w _ _ _⟩
  · intro i c hi
    match i, hi with
    | 0, hi => simp at hi; subst hi; rfl
    | 1, hi => simp at hi; subst hi; rfl
    | 2, hi => simp at hi; subst hi; rfl
  · intro c hc
    simp at hc
    rcases hc with rfl | rfl | rfl
    · exact h1.le (by omega)
    · exact h2.le (by omega)
    · exact h3.le (by omega)

theorem wrapC {w : World} {a : Nat} {x : Bool} (ha : An w a x) : Calls Try.prog 17 #[.int .u8 5, .pointer (some ⟨a, 0, none⟩)] w fun e w' => ∃ p, e = .returned (.pointer (some ⟨p, 0, none⟩)) ∧ An w' p x ∧ Below w.heap.size w w' := by
  obtain ⟨k1, v1, h1⟩ := ha
  refine (wrap_any 5 a w).mono ?_
  rintro e w' ⟨rfl, rfl⟩
  exact ⟨_, rfl, ⟨k1 + 1, _, one_nd (Nat.zero_le _) h1 5 0 0 0 0 false 0 0 false (by omega) (by omega)⟩, below3 w _ _ _⟩

theorem leafC (w : World) : Calls Try.prog 18 #[.int .u8 8] w fun e w' => ∃ p, e = .returned (.pointer (some ⟨p, 0, none⟩)) ∧ An w' p true ∧ Below w.heap.size w w' := by
  refine (leaf_any 8 w).mono ?_
  rintro e w' ⟨rfl, rfl⟩
  exact ⟨_, rfl, ⟨1, _, (leaf_nd w 8 0 0 0 0 false 0 0 false (by omega) (by omega) (by omega)).base (Nat.zero_le _)⟩, ((Below.refl _ _).alloc (Nat.le_refl _) _).alloc (by show w.heap.size ≤ (w.heap.push _).size; simp) _⟩

theorem cloneC (ao : Option Addr) (len cap : Nat) (zs : List Int) (w : World) (hl : len ≤ 65536) (h : InRow w ao len cap zs) :
    Calls Try.prog 11 #[.slice ao len cap] w fun e w' => ∃ ao', e = .returned (.slice ao' len len) ∧ Toks w' w'.heap.size (.slice ao' len len) len ∧ Below w.heap.size w w' := clone_any ao len cap zs w hl h
theorem decodeC (ao : Option Addr) (tl : Nat) (w : World) (hl : tl ≤ 65536) (ht : Toks w w.heap.size (.slice ao tl tl) tl) :
    Calls Try.prog 12 #[.slice ao tl tl] w fun e w' => ∃ p d b, e = .returned (.tuple #[.pointer (some ⟨p, 0, none⟩), .pointer (some ⟨d, 0, none⟩)]) ∧ An w' p b ∧ Below w.heap.size w w' := by
  refine (decode_any ao tl w hl ht).mono ?_
  rintro e w' ⟨a, k, b, v, rfl, h, _, hb⟩
  exact ⟨a, _, b, rfl, ⟨k, v, h.base (Nat.zero_le _)⟩, hb⟩

theorem InRow.below {w w' : World} {ao : Option Addr} {len cap : Nat} {zs : List Int} (h : InRow w ao len cap zs) (hb : Below w.heap.size w w') : InRow w' ao len cap zs := by
  rcases h with h | ⟨x, h0, h1, h2, h3, h4, h5⟩
  · exact .inl h
  · refine .inr ⟨x, h0, h1, h2, h3, fun i hi => ?_, h5⟩
    have hc := h4 i hi
    have hl : (x.add i).block < w.heap.size := by
      rcases Nat.lt_or_ge (x.add i).block w.heap.size with h' | h'
      · exact h'
      · simp [World.cell?, Array.getElem?_eq_none h'] at hc
    exact (hb.cell hl).trans hc
theorem Toks.below {w w' : World} {T : Value} {tl : Nat} (h : Toks w w.heap.size T tl) (hb : Below w.heap.size w w') : Toks w' w'.heap.size T tl := toks_below h hb hb.size

/-- The bounds' function answers, whatever it answers. -/
theorem bytes16 (a0 a1 a2 : Option Addr) (l0 c0 l1 c1 l2 c2 : Nat) (w : World) (h0 : l0 ≤ maxLen) (h1 : l1 ≤ maxLen) (h2 : l2 ≤ maxLen) :
    Calls Try.prog 16 #[.slice a0 l0 c0, .slice a1 l1 c1, .slice a2 l2 c2] w fun e w' => ∃ bb, e = .returned (.bool bb) ∧ w = w' := by
  unfold maxLen at h0 h1 h2
  go_enter Try.func16, Try.ntmps16
  go_wp2
  all_goals
    go_ret
    exact ⟨_, rfl, rfl⟩

set_option maxRecDepth 4000 in
set_option maxHeartbeats 2000000 in
theorem headWalk (a0 : Option Addr) (l0 c0 : Nat) (z0 : List Int) (a1 : Option Addr) (l1 c1 : Nat) (z1 : List Int) (a2 : Option Addr) (l2 c2 : Nat) (z2 : List Int) (w : World) (h0 : InRow w a0 l0 c0 z0) (h1 : InRow w a1 l1 c1 z1) (h2 : InRow w a2 l2 c2 z2)
    (m0 : l0 ≤ maxLen) (m1 : l1 ≤ maxLen) (m2 : l2 ≤ maxLen) :
    Calls Try.prog 5 #[.slice a0 l0 c0, .slice a1 l1 c1, .slice a2 l2 c2] w fun e w' => e = .returned (.bool true) ∧ Below w.heap.size w w' := by
  have HB : Hid (Calls Try.prog 16 #[.slice a0 l0 c0, .slice a1 l1 c1, .slice a2 l2 c2] w fun e w' => ∃ bb, e = .returned (.bool bb) ∧ w = w') := bytes16 a0 a1 a2 l0 c0 l1 c1 l2 c2 w m0 m1 m2
  have H0 : Hid (InRow w a0 l0 c0 z0) := h0
  have H1 : Hid (InRow w a1 l1 c1 z1) := h1
  have H2 : Hid (InRow w a2 l2 c2 z2) := h2
  clear h0 h1 h2 m0 m1 m2
  go_enter Try.func5, Try.ntmps5
  go_wp2_with fail
  refine HB.out.mono ?_
  rintro e w' ⟨bb, rfl, rfl⟩
  cases bb
  · go_wp2
    go_ret
    exact ⟨rfl, Below.refl _ _⟩
  by_cases g0 : (65536 : Int) < (l0 : Int)
  · go_wp2
    go_ret
    exact ⟨rfl, Below.refl _ _⟩
  by_cases g1 : (65536 : Int) < (l1 : Int)
  · go_wp2
    go_ret
    exact ⟨rfl, Below.refl _ _⟩
  by_cases g2 : (65536 : Int) < (l2 : Int)
  · go_wp2
    go_ret
    exact ⟨rfl, Below.refl _ _⟩
  go_wp2_with fail
  refine (cloneC _ _ _ z0 _ (by omega) H0.out).mono ?_
  rintro e w1 ⟨b0, rfl, t0, e1⟩
  have T0 : Hid (Toks w1 w1.heap.size (.slice b0 l0 l0) l0) := t0
  have E1 : Hid (Below w.heap.size w w1) := e1
  clear t0 e1
  go_wp2_with fail
  refine (cloneC _ _ _ z1 _ (by omega) (H1.out.below E1.out)).mono ?_
  rintro e w2 ⟨b1, rfl, t1, e2⟩
  have T1 : Hid (Toks w2 w2.heap.size (.slice b1 l1 l1) l1) := t1
  have E2 : Hid (Below w1.heap.size w1 w2) := e2
  clear t1 e2
  go_wp2_with fail
  refine (cloneC _ _ _ z2 _ (by omega) ((H2.out.below E1.out).below E2.out)).mono ?_
  rintro e w3 ⟨b2, rfl, t2, e3⟩
  have T2 : Hid (Toks w3 w3.heap.size (.slice b2 l2 l2) l2) := t2
  have E3 : Hid (Below w2.heap.size w2 w3) := e3
  clear t2 e3
  go_wp2_with fail
  refine (decodeC _ _ _ (by omega) ((T0.out.below E2.out).below E3.out)).mono ?_
  rintro e w4 ⟨na, da, x, rfl, hna, e4⟩
  have E4 : Hid (Below w3.heap.size w3 w4) := e4
  have NA4 : Hid (An w4 na x) := hna
  clear e4 hna
  go_wp2_with fail
  refine (decodeC _ _ _ (by omega) ((T1.out.below E3.out).below E4.out)).mono ?_
  rintro e w5 ⟨nb, db, y, rfl, hnb, e5⟩
  have E5 : Hid (Below w4.heap.size w4 w5) := e5
  have NB5 : Hid (An w5 nb y) := hnb
  clear e5 hnb
  go_wp2_with fail
  refine (decodeC _ _ _ (by omega) ((T2.out.below E4.out).below E5.out)).mono ?_
  rintro e w6 ⟨nc, dc, z, rfl, hnc, e6⟩
  have E6 : Hid (Below w5.heap.size w5 w6) := e6
  have NC6 : Hid (An w6 nc z) := hnc
  have NB6 : Hid (An w6 nb y) := NB5.out.below e6
  have NA6 : Hid (An w6 na x) := (NA4.out.below E5.out).below e6
  have EE6 : Hid (Below w.heap.size w w6) := by
    have z1 := E1.out.size; have z2 := E2.out.size; have z3 := E3.out.size; have z4 := E4.out.size; have z5 := E5.out.size
    exact ((((E1.out.trans (E2.out.mono z1)).trans (E3.out.mono (by omega))).trans (E4.out.mono (by omega))).trans (E5.out.mono (by omega))).trans (e6.mono (by omega))
  clear e6 hnc E1 E2 E3 E4 E5 E6 T0 T1 T2 NA4 NB5 H0 H1 H2 HB
  go_wp2_with fail
  refine (anC NA6.out).mono ?_
  rintro e w' ⟨rfl, rfl⟩
  go_wp2_with fail
  refine (pairC NA6.out NB6.out).mono ?_
  rintro e w7 ⟨p1, rfl, hq, e7⟩
  have NA_7 : Hid (An w7 na x) := NA6.out.below e7
  clear NA6
  have NB_7 : Hid (An w7 nb y) := NB6.out.below e7
  clear NB6
  have NC_7 : Hid (An w7 nc z) := NC6.out.below e7
  clear NC6
  have P1_7 : Hid (An w7 p1 x) := hq
  have EE7 : Hid (Below w.heap.size w w7) := EE6.out.trans (e7.mono EE6.out.size)
  clear hq e7 EE6
  go_wp2_with fail
  refine (anC P1_7.out).mono ?_
  rintro e w' ⟨rfl, rfl⟩
  go_wp2_with fail
  refine (wrapC NA_7.out).mono ?_
  rintro e w8 ⟨g1, rfl, hq, e8⟩
  have NA_8 : Hid (An w8 na x) := NA_7.out.below e8
  clear NA_7
  have NB_8 : Hid (An w8 nb y) := NB_7.out.below e8
  clear NB_7
  have NC_8 : Hid (An w8 nc z) := NC_7.out.below e8
  clear NC_7
  have P1_8 : Hid (An w8 p1 x) := P1_7.out.below e8
  clear P1_7
  have G1_8 : Hid (An w8 g1 x) := hq
  have EE8 : Hid (Below w.heap.size w w8) := EE7.out.trans (e8.mono EE7.out.size)
  clear hq e8 EE7
  go_wp2_with fail
  refine (pairC G1_8.out NC_8.out).mono ?_
  rintro e w9 ⟨p2, rfl, hq, e9⟩
  have NA_9 : Hid (An w9 na x) := NA_8.out.below e9
  clear NA_8
  have NB_9 : Hid (An w9 nb y) := NB_8.out.below e9
  clear NB_8
  have NC_9 : Hid (An w9 nc z) := NC_8.out.below e9
  clear NC_8
  have P1_9 : Hid (An w9 p1 x) := P1_8.out.below e9
  clear P1_8
  have G1_9 : Hid (An w9 g1 x) := G1_8.out.below e9
  clear G1_8
  have P2_9 : Hid (An w9 p2 x) := hq
  have EE9 : Hid (Below w.heap.size w w9) := EE8.out.trans (e9.mono EE8.out.size)
  clear hq e9 EE8
  go_wp2_with fail
  refine (anC P2_9.out).mono ?_
  rintro e w' ⟨rfl, rfl⟩
  go_wp2_with fail
  refine (leafC _).mono ?_
  rintro e w10 ⟨s1, rfl, hq, e10⟩
  have NA_10 : Hid (An w10 na x) := NA_9.out.below e10
  clear NA_9
  have NB_10 : Hid (An w10 nb y) := NB_9.out.below e10
  clear NB_9
  have NC_10 : Hid (An w10 nc z) := NC_9.out.below e10
  clear NC_9
  have P1_10 : Hid (An w10 p1 x) := P1_9.out.below e10
  clear P1_9
  have G1_10 : Hid (An w10 g1 x) := G1_9.out.below e10
  clear G1_9
  have P2_10 : Hid (An w10 p2 x) := P2_9.out.below e10
  clear P2_9
  have S1_10 : Hid (An w10 s1 true) := hq
  have EE10 : Hid (Below w.heap.size w w10) := EE9.out.trans (e10.mono EE9.out.size)
  clear hq e10 EE9
  go_wp2_with fail
  refine (pairC S1_10.out NB_10.out).mono ?_
  rintro e w11 ⟨p3, rfl, hq, e11⟩
  have NA_11 : Hid (An w11 na x) := NA_10.out.below e11
  clear NA_10
  have NB_11 : Hid (An w11 nb y) := NB_10.out.below e11
  clear NB_10
  have NC_11 : Hid (An w11 nc z) := NC_10.out.below e11
  clear NC_10
  have P1_11 : Hid (An w11 p1 x) := P1_10.out.below e11
  clear P1_10
  have G1_11 : Hid (An w11 g1 x) := G1_10.out.below e11
  clear G1_10
  have P2_11 : Hid (An w11 p2 x) := P2_10.out.below e11
  clear P2_10
  have S1_11 : Hid (An w11 s1 true) := S1_10.out.below e11
  clear S1_10
  have P3_11 : Hid (An w11 p3 true) := hq
  have EE11 : Hid (Below w.heap.size w w11) := EE10.out.trans (e11.mono EE10.out.size)
  clear hq e11 EE10
  go_wp2_with fail
  refine (anC P3_11.out).mono ?_
  rintro e w' ⟨rfl, rfl⟩
  go_wp2_with fail
  refine (leafC _).mono ?_
  rintro e w12 ⟨s2, rfl, hq, e12⟩
  have NA_12 : Hid (An w12 na x) := NA_11.out.below e12
  clear NA_11
  have NB_12 : Hid (An w12 nb y) := NB_11.out.below e12
  clear NB_11
  have NC_12 : Hid (An w12 nc z) := NC_11.out.below e12
  clear NC_11
  have P1_12 : Hid (An w12 p1 x) := P1_11.out.below e12
  clear P1_11
  have G1_12 : Hid (An w12 g1 x) := G1_11.out.below e12
  clear G1_11
  have P2_12 : Hid (An w12 p2 x) := P2_11.out.below e12
  clear P2_11
  have S1_12 : Hid (An w12 s1 true) := S1_11.out.below e12
  clear S1_11
  have P3_12 : Hid (An w12 p3 true) := P3_11.out.below e12
  clear P3_11
  have S2_12 : Hid (An w12 s2 true) := hq
  have EE12 : Hid (Below w.heap.size w w12) := EE11.out.trans (e12.mono EE11.out.size)
  clear hq e12 EE11
  go_wp2_with fail
  refine (pairC S2_12.out NA_12.out).mono ?_
  rintro e w13 ⟨p4, rfl, hq, e13⟩
  have NA_13 : Hid (An w13 na x) := NA_12.out.below e13
  clear NA_12
  have NB_13 : Hid (An w13 nb y) := NB_12.out.below e13
  clear NB_12
  have NC_13 : Hid (An w13 nc z) := NC_12.out.below e13
  clear NC_12
  have P1_13 : Hid (An w13 p1 x) := P1_12.out.below e13
  clear P1_12
  have G1_13 : Hid (An w13 g1 x) := G1_12.out.below e13
  clear G1_12
  have P2_13 : Hid (An w13 p2 x) := P2_12.out.below e13
  clear P2_12
  have S1_13 : Hid (An w13 s1 true) := S1_12.out.below e13
  clear S1_12
  have P3_13 : Hid (An w13 p3 true) := P3_12.out.below e13
  clear P3_12
  have S2_13 : Hid (An w13 s2 true) := S2_12.out.below e13
  clear S2_12
  have P4_13 : Hid (An w13 p4 true) := hq
  have EE13 : Hid (Below w.heap.size w w13) := EE12.out.trans (e13.mono EE12.out.size)
  clear hq e13 EE12
  go_wp2_with fail
  refine (leafC _).mono ?_
  rintro e w14 ⟨s3, rfl, hq, e14⟩
  have NA_14 : Hid (An w14 na x) := NA_13.out.below e14
  clear NA_13
  have NB_14 : Hid (An w14 nb y) := NB_13.out.below e14
  clear NB_13
  have NC_14 : Hid (An w14 nc z) := NC_13.out.below e14
  clear NC_13
  have P1_14 : Hid (An w14 p1 x) := P1_13.out.below e14
  clear P1_13
  have G1_14 : Hid (An w14 g1 x) := G1_13.out.below e14
  clear G1_13
  have P2_14 : Hid (An w14 p2 x) := P2_13.out.below e14
  clear P2_13
  have S1_14 : Hid (An w14 s1 true) := S1_13.out.below e14
  clear S1_13
  have P3_14 : Hid (An w14 p3 true) := P3_13.out.below e14
  clear P3_13
  have S2_14 : Hid (An w14 s2 true) := S2_13.out.below e14
  clear S2_13
  have P4_14 : Hid (An w14 p4 true) := P4_13.out.below e14
  clear P4_13
  have S3_14 : Hid (An w14 s3 true) := hq
  have EE14 : Hid (Below w.heap.size w w14) := EE13.out.trans (e14.mono EE13.out.size)
  clear hq e14 EE13
  go_wp2_with fail
  refine (pairC S3_14.out NB_14.out).mono ?_
  rintro e w15 ⟨p5, rfl, hq, e15⟩
  have NA_15 : Hid (An w15 na x) := NA_14.out.below e15
  clear NA_14
  have NB_15 : Hid (An w15 nb y) := NB_14.out.below e15
  clear NB_14
  have NC_15 : Hid (An w15 nc z) := NC_14.out.below e15
  clear NC_14
  have P1_15 : Hid (An w15 p1 x) := P1_14.out.below e15
  clear P1_14
  have G1_15 : Hid (An w15 g1 x) := G1_14.out.below e15
  clear G1_14
  have P2_15 : Hid (An w15 p2 x) := P2_14.out.below e15
  clear P2_14
  have S1_15 : Hid (An w15 s1 true) := S1_14.out.below e15
  clear S1_14
  have P3_15 : Hid (An w15 p3 true) := P3_14.out.below e15
  clear P3_14
  have S2_15 : Hid (An w15 s2 true) := S2_14.out.below e15
  clear S2_14
  have P4_15 : Hid (An w15 p4 true) := P4_14.out.below e15
  clear P4_14
  have S3_15 : Hid (An w15 s3 true) := S3_14.out.below e15
  clear S3_14
  have P5_15 : Hid (An w15 p5 true) := hq
  have EE15 : Hid (Below w.heap.size w w15) := EE14.out.trans (e15.mono EE14.out.size)
  clear hq e15 EE14
  go_wp2_with fail
  refine (leafC _).mono ?_
  rintro e w16 ⟨s4, rfl, hq, e16⟩
  have NA_16 : Hid (An w16 na x) := NA_15.out.below e16
  clear NA_15
  have NB_16 : Hid (An w16 nb y) := NB_15.out.below e16
  clear NB_15
  have NC_16 : Hid (An w16 nc z) := NC_15.out.below e16
  clear NC_15
  have P1_16 : Hid (An w16 p1 x) := P1_15.out.below e16
  clear P1_15
  have G1_16 : Hid (An w16 g1 x) := G1_15.out.below e16
  clear G1_15
  have P2_16 : Hid (An w16 p2 x) := P2_15.out.below e16
  clear P2_15
  have S1_16 : Hid (An w16 s1 true) := S1_15.out.below e16
  clear S1_15
  have P3_16 : Hid (An w16 p3 true) := P3_15.out.below e16
  clear P3_15
  have S2_16 : Hid (An w16 s2 true) := S2_15.out.below e16
  clear S2_15
  have P4_16 : Hid (An w16 p4 true) := P4_15.out.below e16
  clear P4_15
  have S3_16 : Hid (An w16 s3 true) := S3_15.out.below e16
  clear S3_15
  have P5_16 : Hid (An w16 p5 true) := P5_15.out.below e16
  clear P5_15
  have S4_16 : Hid (An w16 s4 true) := hq
  have EE16 : Hid (Below w.heap.size w w16) := EE15.out.trans (e16.mono EE15.out.size)
  clear hq e16 EE15
  go_wp2_with fail
  refine (pairC S4_16.out NC_16.out).mono ?_
  rintro e w17 ⟨p6, rfl, hq, e17⟩
  have NA_17 : Hid (An w17 na x) := NA_16.out.below e17
  clear NA_16
  have NB_17 : Hid (An w17 nb y) := NB_16.out.below e17
  clear NB_16
  have NC_17 : Hid (An w17 nc z) := NC_16.out.below e17
  clear NC_16
  have P1_17 : Hid (An w17 p1 x) := P1_16.out.below e17
  clear P1_16
  have G1_17 : Hid (An w17 g1 x) := G1_16.out.below e17
  clear G1_16
  have P2_17 : Hid (An w17 p2 x) := P2_16.out.below e17
  clear P2_16
  have S1_17 : Hid (An w17 s1 true) := S1_16.out.below e17
  clear S1_16
  have P3_17 : Hid (An w17 p3 true) := P3_16.out.below e17
  clear P3_16
  have S2_17 : Hid (An w17 s2 true) := S2_16.out.below e17
  clear S2_16
  have P4_17 : Hid (An w17 p4 true) := P4_16.out.below e17
  clear P4_16
  have S3_17 : Hid (An w17 s3 true) := S3_16.out.below e17
  clear S3_16
  have P5_17 : Hid (An w17 p5 true) := P5_16.out.below e17
  clear P5_16
  have S4_17 : Hid (An w17 s4 true) := S4_16.out.below e17
  clear S4_16
  have P6_17 : Hid (An w17 p6 true) := hq
  have EE17 : Hid (Below w.heap.size w w17) := EE16.out.trans (e17.mono EE16.out.size)
  clear hq e17 EE16
  go_wp2_with fail
  refine (wrapC P6_17.out).mono ?_
  rintro e w18 ⟨g2, rfl, hq, e18⟩
  have NA_18 : Hid (An w18 na x) := NA_17.out.below e18
  clear NA_17
  have NB_18 : Hid (An w18 nb y) := NB_17.out.below e18
  clear NB_17
  have NC_18 : Hid (An w18 nc z) := NC_17.out.below e18
  clear NC_17
  have P1_18 : Hid (An w18 p1 x) := P1_17.out.below e18
  clear P1_17
  have G1_18 : Hid (An w18 g1 x) := G1_17.out.below e18
  clear G1_17
  have P2_18 : Hid (An w18 p2 x) := P2_17.out.below e18
  clear P2_17
  have S1_18 : Hid (An w18 s1 true) := S1_17.out.below e18
  clear S1_17
  have P3_18 : Hid (An w18 p3 true) := P3_17.out.below e18
  clear P3_17
  have S2_18 : Hid (An w18 s2 true) := S2_17.out.below e18
  clear S2_17
  have P4_18 : Hid (An w18 p4 true) := P4_17.out.below e18
  clear P4_17
  have S3_18 : Hid (An w18 s3 true) := S3_17.out.below e18
  clear S3_17
  have P5_18 : Hid (An w18 p5 true) := P5_17.out.below e18
  clear P5_17
  have S4_18 : Hid (An w18 s4 true) := S4_17.out.below e18
  clear S4_17
  have P6_18 : Hid (An w18 p6 true) := P6_17.out.below e18
  clear P6_17
  have G2_18 : Hid (An w18 g2 true) := hq
  have EE18 : Hid (Below w.heap.size w w18) := EE17.out.trans (e18.mono EE17.out.size)
  clear hq e18 EE17
  go_wp2_with fail
  refine (tripleC P4_18.out P5_18.out G2_18.out).mono ?_
  rintro e w19 ⟨al, rfl, hq, e19⟩
  have NA_19 : Hid (An w19 na x) := NA_18.out.below e19
  clear NA_18
  have NB_19 : Hid (An w19 nb y) := NB_18.out.below e19
  clear NB_18
  have NC_19 : Hid (An w19 nc z) := NC_18.out.below e19
  clear NC_18
  have P1_19 : Hid (An w19 p1 x) := P1_18.out.below e19
  clear P1_18
  have G1_19 : Hid (An w19 g1 x) := G1_18.out.below e19
  clear G1_18
  have P2_19 : Hid (An w19 p2 x) := P2_18.out.below e19
  clear P2_18
  have S1_19 : Hid (An w19 s1 true) := S1_18.out.below e19
  clear S1_18
  have P3_19 : Hid (An w19 p3 true) := P3_18.out.below e19
  clear P3_18
  have S2_19 : Hid (An w19 s2 true) := S2_18.out.below e19
  clear S2_18
  have P4_19 : Hid (An w19 p4 true) := P4_18.out.below e19
  clear P4_18
  have S3_19 : Hid (An w19 s3 true) := S3_18.out.below e19
  clear S3_18
  have P5_19 : Hid (An w19 p5 true) := P5_18.out.below e19
  clear P5_18
  have S4_19 : Hid (An w19 s4 true) := S4_18.out.below e19
  clear S4_18
  have P6_19 : Hid (An w19 p6 true) := P6_18.out.below e19
  clear P6_18
  have G2_19 : Hid (An w19 g2 true) := G2_18.out.below e19
  clear G2_18
  have AL_19 : Hid (An w19 al true) := hq
  have EE19 : Hid (Below w.heap.size w w19) := EE18.out.trans (e19.mono EE18.out.size)
  clear hq e19 EE18
  go_wp2_with fail
  refine (anC AL_19.out).mono ?_
  rintro e w' ⟨rfl, rfl⟩
  go_wp2
  go_ret
  exact ⟨rfl, EE19.out⟩
end Go.Proofs.Qxb6001165a
