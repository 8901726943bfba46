/-
  emit: alternations: the walk.
-/
import Derived.Test.Qxb6001165aEmitG
namespace Go.Proofs.Qxb6001165a
open Go.RowKit

/-- How far an alternation has come. -/
def Alt (w0 w wr : World) (P : Nat) (ops : List Nat) (nl nk nb : Nat) (J : Value) (m : Nat) (u : Nat → Nat) : Prop :=
  ∃ ops', Prg w0 w wr P (ops ++ ops') (nl + u 13) (nk + u 14) (nb + u 14) ∧ Cnt ops' u ∧ Jmp w wr J m (ops ++ ops').length

theorem oneCell_int (n : Int) : ∀ u ∈ [Value.int .i64 n], u.oneCell' = true := by
  intro u hu
  simp at hu
  subst hu; rfl

set_option maxRecDepth 4000 in
set_option maxHeartbeats 4000000 in
theorem emit_3 (w0 F w : World) (P a k : Nat) (ops : List Nat) (nl nk nb : Nat) (back : Bool) (row n cap : Nat) (sb : Nat) (mn mx : Int) (gr : Bool) (g gs : Int) (ng : Bool) (hP : w0.heap.size = P) (ha : w0.heap[a]? = some (.cells (NodeCells 3 (.slice (some ⟨row, 0, none⟩) n cap) sb mn mx gr g gs ng) 81 (0, 0)))
    (cs : List (Nat × Bool × (Nat → Nat))) (hcs : cs.length = n) (hn0 : 0 < n) (hn3 : n ≤ 3) (hrow : row < w0.heap.size) (hr : ∀ i c, cs[i]? = some c → w0.cell? ⟨row, i, none⟩ = some (.pointer (some ⟨c.1, 0, none⟩))) (hnd : ∀ c ∈ cs, Nd k w0 0 c.1 c.2.1 c.2.2) (ih : EmitAt w0 P k) (hp : Prg w0 F w P ops nl nk nb)
    (hl : ops.length + nl + nk + nb + 2 * (wt (vsum (cs.map (·.2.2))) + 2 * (n - 1)) ≤ 2000000) :
    Calls Try.prog 30 #[.pointer (some ⟨P, 0, none⟩), .pointer (some ⟨a, 0, none⟩), .bool back, .pointer (some ⟨P + 1, 0, none⟩)] w fun e w' => EmitEnd w0 F P ops nl nk nb (vadd (vsum (cs.map (·.2.2))) (fun i => ((cs.map (·.2.2)).length - 1) * (ve 1 i + ve 2 i))) e w' := by
  have hn := hp.node hP ha
  have c0 : w.cell? ⟨a, 0, none⟩ = some (.int .u8 3) := row_cell hn rfl
  have c1 : w.cell? ⟨a, 1, none⟩ = some (.slice (some ⟨row, 0, none⟩) n cap) := row_cell hn rfl
  have hP2 : P + 2 ≤ w.heap.size := hp.size
  have HP : Hid (Prg w0 F w P ops nl nk nb) := hp
  have IH : Hid (EmitAt w0 P k) := ih
  have HA : Hid (w0.heap[a]? = some (.cells (NodeCells 3 (.slice (some ⟨row, 0, none⟩) n cap) sb mn mx gr g gs ng) 81 (0, 0))) := ha
  have HR : Hid (∀ i c, cs[i]? = some c → w0.cell? ⟨row, i, none⟩ = some (.pointer (some ⟨c.1, 0, none⟩))) := hr
  have HN : Hid (∀ c ∈ cs, Nd k w0 0 c.1 c.2.1 c.2.2) := hnd
  have HL : Hid (ops.length + nl + nk + nb + 2 * (wt (vsum (cs.map (·.2.2))) + 2 * (n - 1)) ≤ 2000000) := hl
  have HCS : Hid (cs.length = n) := hcs

  clear hp hn ha ih hr hnd hl hcs
  obtain ⟨i3, hi3, hy0, hy1, hy2⟩ := info_parts Prg.info3
  go_enter Try.func30, Try.ntmps30
  go_wp2
  go_loopw [9, 69] (fun sj si wr => ∃ i : Nat, i < n ∧ si = .int .i64 i ∧ Hid (Alt w0 w wr P ops nl nk nb sj i (altv (cs.map (·.2.2)) i))) (fun _ si _ => n - (intOf si).toNat)
  case atStart =>
    exact ⟨0, by omega, rfl, [], by have h := HP.out.frame (Keep.refl w); simpa [altv, vadd, vsum, vz] using h, Cnt.nil.eq (fun i _ => by simp [altv, vadd, vsum, vz]), Jmp.nil _ _ _⟩
  case round =>
    obtain ⟨i, hi, rfl, HC⟩ := hrel
    obtain ⟨ops', hp', hc', hj'⟩ := HC.out
    have hn := hp'.node hP HA.out
    have d1 : wr.cell? ⟨a, 1, none⟩ = some (.slice (some ⟨row, 0, none⟩) n cap) := row_cell hn rfl
    obtain ⟨c, hci⟩ : ∃ c, cs[i]? = some c := ⟨_, List.getElem?_eq_getElem (by have := HCS.out; omega)⟩
    have r1 : wr.cell? ⟨row, i, none⟩ = some (.pointer (some ⟨c.1, 0, none⟩)) := (hp'.below.cell (p := ⟨row, i, none⟩) (by show row < P; omega)).trans (HR.out i c hci)
    have HCI : Hid (cs[i]? = some c) := hci
    have HVI : Hid ((cs.map (·.2.2))[i]? = some c.2.2) := by show _ = _; simp [hci]
    have HNC : Hid (Nd k w0 0 c.1 c.2.1 c.2.2) := HN.out c (List.mem_of_getElem? hci)
    have HPR : Hid (Prg w0 w wr P (ops ++ ops') (nl + altv (cs.map (·.2.2)) i 13) (nk + altv (cs.map (·.2.2)) i 14) (nb + altv (cs.map (·.2.2)) i 14)) := hp'
    have HCR : Hid (Cnt ops' (altv (cs.map (·.2.2)) i)) := hc'
    have HJ : Hid (Jmp w wr u9 i (ops ++ ops').length) := hj'
    have HB : Hid (ops.length + ops'.length + (nl + altv (cs.map (·.2.2)) i 13) + (nk + altv (cs.map (·.2.2)) i 14) + (nb + altv (cs.map (·.2.2)) i 14) + 2 * wt c.2.2 + 4 * (n - 1 - i) ≤ 2000000) := by
      have h1 := HL.out
      have h2 := hc'.2
      have h3 := wt_altv (cs.map (·.2.2)) i
      have h4 := wt_part HVI.out
      show _ ≤ _
      omega
    clear hp' hc' hj' hn hci HC
    by_cases hlast : i = n - 1
    · have hli : (n : Int) - 1 = (i : Int) := by omega
      clear hlast
      go_wp2_with fail
      refine (IH.out wr wr c.1 c.2.1 c.2.2 _ _ _ _ back HNC.out (HPR.out.frame (Keep.refl wr)) (by have := HB.out; rw [List.length_append]; omega)).mono ?_
      rintro e w1 ⟨rfl, ops2, hp2, hc2⟩
      have HX : Hid (Alt w0 w w1 P ops nl nk nb u9 i (vadd (vsum (cs.map (·.2.2))) (fun i => ((cs.map (·.2.2)).length - 1) * (ve 1 i + ve 2 i)))) := by
        have hx := altv_last (vs := cs.map (·.2.2)) (i := i) (by have := HCS.out; simp; omega) HVI.out
        refine ⟨ops' ++ ops2, ?_, (HCR.out.add hc2).eq (fun j _ => hx j), ?_⟩
        · rw [← hx 13, ← hx 14, ← List.append_assoc, ← Nat.add_assoc, ← Nat.add_assoc, ← Nat.add_assoc]
          exact hp2.frame (HPR.out.keep.trans hp2.keep)
        · exact (HJ.out.keep hp2.keep).mono (by simp)
      clear hp2 hc2 d1 r1 HPR HJ
      obtain ⟨ao, cj, rfl⟩ := HX.out.choose_spec.2.2.shape
      go_wp2
      go_loopw [125] (fun sq wq => ∃ q : Nat, q ≤ i ∧ sq = .int .i64 q ∧ Hid (Alt w0 w wq P ops nl nk nb (.slice ao i cj) i (vadd (vsum (cs.map (·.2.2))) (fun i => ((cs.map (·.2.2)).length - 1) * (ve 1 i + ve 2 i))))) (fun sq _ => i - (intOf sq).toNat)
      case atStart => exact ⟨0, by omega, rfl, HX⟩
      case round =>
        obtain ⟨q, hq, rfl, HC⟩ := hrel
        by_cases hlt : q < i
        · obtain ⟨ops3, hp3, hc3, hj3⟩ := HC.out
          obtain ⟨G, x, rfl, hx, hcell⟩ := hj3.get hlt
          obtain ⟨L, hL⟩ : ∃ L, L = (ops ++ ops3).length := ⟨_, rfl⟩
          obtain ⟨g3, k3, cur3, p3, hb3, hg3, hs3⟩ := hp3.row (by omega)
          rw [← hL] at p3 hs3 hx
          have hxL : (x : Int) < (L : Int) := by omega
          have hLb : L ≤ 3000000 := by
            have h1 := HL.out
            have h2 := hc3.2
            rw [wt_vadd, wt_twos] at h2
            rw [hL, List.length_append]
            have h3 : (cs.map (·.2.2)).length = n := by simp; exact HCS.out
            omega
          obtain ⟨u3, x3, y3⟩ := put_cell hb3 (j := x * 6 + 3) (by omega)
          have hne : g3 ≠ P := by omega
          have hne' : P ≠ g3 := by omega
          have HQ : Hid (∀ m, Alt w0 w (wr.setCell ⟨g3, x * 6 + 3, none⟩ (.int .i64 m)).drew P ops nl nk nb (.slice (some ⟨G, 0, none⟩) i cj) i (vadd (vsum (cs.map (·.2.2))) (fun i => ((cs.map (·.2.2)).length - 1) * (ve 1 i + ve 2 i)))) := fun m => ⟨ops3, by rw [Nat.mul_comm]; exact (hp3.put hb3 hg3 x 3 (.inl rfl) m).drew, hc3, hj3.keep ((Keep.refl _).set hb3 (by decide) _ _)⟩
          clear hp3 hc3 hj3 hb3 hg3 hs3 hL HX HC hx
          go_upto_region 27 with fail
          go_region_held3 (fun w' => w'.cell? ⟨P, 0, none⟩ = some (.slice (some ⟨g3, 0, none⟩) L k3)) (go_keep) (fail)
          go_wp2_with fail
          go_roundw
          case rel => exact ⟨q + 1, by omega, by go_num, HQ.out _⟩
          case measure => simp [intOf]; omega
        · obtain rfl : q = i := by omega
          go_wp2
          go_end0
          obtain ⟨ops3, hp3, hc3, _⟩ := HC.out
          exact ⟨rfl, ops3, by simpa using hp3.frame (HP.out.keep.trans hp3.keep), hc3.eq (fun j _ => by simp)⟩
    · have hni : ¬ (i : Int) = (n : Int) - 1 := by omega
      have hlt : i < n - 1 := by omega
      clear hlast
      go_wp2_with fail
      refine (add_any w0 wr wr P (ops ++ ops') _ _ _ 1 false 0 0 0 _ _ _ (HPR.out.frame (Keep.refl wr)) (by omega) (setNil w0) (by have := HB.out; rw [List.length_append]; omega)).mono ?_
      rintro e w1 ⟨rfl, hp1, -⟩
      obtain ⟨sp, hsp⟩ : ∃ sp, sp = (ops ++ ops').length := ⟨_, rfl⟩
      have hl1 : (ops ++ ops' ++ [1]).length = sp + 1 := by rw [hsp]; simp; omega
      rw [← hsp]
      obtain ⟨g1, k1, cur1, p1, hb1, hg1, hs1⟩ := hp1.row (by omega)
      rw [hl1] at p1 hs1
      have hspb : sp ≤ 2000000 := by have := HB.out; rw [hsp, List.length_append]; omega
      have hspI : (sp : Int) < ((sp + 1 : Nat) : Int) := by omega
      obtain ⟨u1, x1, y1⟩ := put_cell hb1 (j := sp * 6 + 3) (by omega)
      have HQ1 : Hid (∀ m, Prg w0 wr (w1.setCell ⟨g1, sp * 6 + 3, none⟩ (.int .i64 m)) P (ops ++ ops' ++ [1]) (nl + altv (cs.map (·.2.2)) i 13) (nk + altv (cs.map (·.2.2)) i 14) (nb + altv (cs.map (·.2.2)) i 14)) := fun m => by
        rw [Nat.mul_comm]; exact hp1.put hb1 hg1 sp 3 (.inl rfl) m
      have HSP : Hid (sp = (ops ++ ops').length) := hsp
      clear hp1 hb1 hg1 hs1 hl1 hsp
      go_wp2_with fail
      refine (IH.out wr _ c.1 c.2.1 c.2.2 _ _ _ _ back HNC.out (HQ1.out _) (by have := HB.out; simp; omega)).mono ?_
      rintro e w2 ⟨rfl, ops2, hp2, hc2⟩
      have HP2 : Hid (Prg w0 wr w2 P (ops ++ ops' ++ [1] ++ ops2) (nl + altv (cs.map (·.2.2)) i 13 + c.2.2 13) (nk + altv (cs.map (·.2.2)) i 14 + c.2.2 14) (nb + altv (cs.map (·.2.2)) i 14 + c.2.2 14)) := hp2
      have HC2 : Hid (Cnt ops2 c.2.2) := hc2
      have hlb : (ops ++ ops' ++ [1] ++ ops2).length ≤ 2000000 := by
        have h1 := HB.out
        have h2 := hc2.2
        simp
        omega
      have HLB : Hid ((ops ++ ops' ++ [1] ++ ops2).length ≤ 2000000) := hlb
      clear hp2 hc2 HQ1 p1 x1 y1 hlb d1 r1
      go_wp2_with fail
      refine (add_any w0 wr w2 P _ _ _ _ 2 false 0 0 0 _ _ _ HP2.out (by omega) (setNil w0) HLB.out).mono ?_
      rintro e w3 ⟨rfl, hp3, -⟩
      obtain ⟨jp, hjp⟩ : ∃ jp, jp = (ops ++ ops' ++ [1] ++ ops2).length := ⟨_, rfl⟩
      rw [← hjp]
      have hjb : jp ≤ 2000000 := by rw [hjp]; exact HLB.out
      have hsj : sp < jp := by rw [hjp, HSP.out]; simp
      obtain ⟨xs, HW, HS, HH⟩ := Jmp.app (L' := jp + 1) (x := jp) (hp3.frame (HPR.out.keep.trans hp3.keep)) hP2 (HJ.out.keep hp3.keep) (by rw [← HSP.out]; omega) (by omega)
      have HL2 : Hid (∀ j u, [Value.int .i64 jp][j]? = some u → (w3.alloc (.cells #[.int .i64 jp] 3)).cell? ((⟨w3.heap.size, 0, none⟩ : Addr).add j) = some u) := lit_cells (heap_top w3 _)
      have HJP : Hid (jp = (ops ++ ops' ++ [1] ++ ops2).length) := hjp
      clear hp3 hjp HP2 HLB HJ HPR
      go_upto_region 22 with (at_builtin; refine wpList_app _ rfl (.tmp 104) (.tmp 108) 69 rfl w.heap.size 3 i3 (.int .i64 0) 1 8 Try.underlying69 hi3 hy0 hy1 hy2 rfl (by decide) u9 i xs rfl HW.out ⟨w3.heap.size, 0, none⟩ 1 [.int .i64 jp] rfl rfl HL2.out (oneCell_int _) (by unfold maxLen; omega) (by omega) HS.out ?_; intro G cj w4 ho ha; have HO : Hid _ := HH.out G cj w4 ho ha; clear ho ha)
      obtain ⟨hp4, hj4⟩ := HO.out
      obtain ⟨L4, hL4⟩ : ∃ L4, L4 = jp + 1 := ⟨_, rfl⟩
      have hl4 : (ops ++ ops' ++ [1] ++ ops2 ++ [2]).length = L4 := by rw [hL4, HJP.out]; simp; omega
      obtain ⟨g4, k4, cur4, p4, hb4, hg4, hs4⟩ := hp4.row (by omega)
      rw [hl4] at p4 hs4
      have hsI : (sp : Int) < (L4 : Int) := by omega
      have hLb : L4 ≤ 3000000 := by omega
      obtain ⟨u4, x4, y4⟩ := put_cell hb4 (j := sp * 6 + 4) (by omega)
      have hne : g4 ≠ P := by omega
      have hne' : P ≠ g4 := by omega
      have HQ : Hid (∀ m, Alt w0 w (w4.setCell ⟨g4, sp * 6 + 4, none⟩ (.int .i64 m)).drew P ops nl nk nb (.slice (some ⟨G, 0, none⟩) (i + 1) cj) (i + 1) (altv (cs.map (·.2.2)) (i + 1))) := fun m => by
        have hx := altv_next HVI.out
        have e0 : ops ++ (ops' ++ [1] ++ ops2 ++ [2]) = ops ++ ops' ++ [1] ++ ops2 ++ [2] := by simp
        refine ⟨ops' ++ [1] ++ ops2 ++ [2], ?_, ((((HCR.out.add (Cnt.one 1 (by omega))).add HC2.out).add (Cnt.one 2 (by omega)))).eq (fun j _ => ?_), ?_⟩
        · have e1 : nl + altv (cs.map (·.2.2)) (i + 1) 13 = nl + altv (cs.map (·.2.2)) i 13 + c.2.2 13 := by
            rw [← hx 13]; simp [ve]; omega
          have e2 : ∀ z, z + altv (cs.map (·.2.2)) (i + 1) 14 = z + altv (cs.map (·.2.2)) i 14 + c.2.2 14 := fun z => by
            rw [← hx 14]; simp [ve]; omega
          rw [e0, e1, e2, e2, Nat.mul_comm]
          exact (hp4.put hb4 hg4 sp 4 (.inr rfl) m).drew
        · rw [← hx j]; unfold vadd; omega
        · rw [e0, hl4, hL4]
          exact hj4.keep ((Keep.refl _).set hb4 (by decide) _ _)
      clear hp4 hj4 hb4 hg4 hs4 hl4 hL4 HO HH HW HS HL2
      go_region_held3 (fun w' => w'.cell? ⟨P, 0, none⟩ = some (.slice (some ⟨g4, 0, none⟩) L4 k4)) (go_keep) (fail)
      go_wp2_with fail
      go_roundw
      case rel => exact ⟨i + 1, by omega, by go_num, HQ.out _⟩
      case measure => simp [intOf]; omega
end Go.Proofs.Qxb6001165a
