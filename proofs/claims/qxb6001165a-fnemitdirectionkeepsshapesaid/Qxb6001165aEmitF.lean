/-
  emit: repeats.
-/
import Derived.Test.Qxb6001165aEmitS
namespace Go.Proofs.Qxb6001165a
open Go.RowKit

set_option maxRecDepth 4000 in
set_option maxHeartbeats 4000000 in
theorem emit_4 (w0 F w : World) (P a k : Nat) (ops : List Nat) (nl nk nb : Nat) (back : Bool) (row n cap : Nat) (sb : Nat) (mn mx : Int) (gr : Bool) (g gs : Int) (ng : Bool) (hP : w0.heap.size = P) (ha : w0.heap[a]? = some (.cells (NodeCells 4 (.slice (some ⟨row, 0, none⟩) n cap) sb mn mx gr g gs ng) 81 (0, 0)))
    (hmx : ¬ mx = 0) (hn0 : 0 < n) (a1 : Nat) (b1 : Bool) (v1 : Nat → Nat) (hrow : row < w0.heap.size) (hr : w0.cell? ⟨row, 0, none⟩ = some (.pointer (some ⟨a1, 0, none⟩))) (hnd : Nd k w0 0 a1 b1 v1) (ih : EmitAt w0 P k) (hp : Prg w0 F w P ops nl nk nb) (hl : ops.length + nl + nk + nb + 2 * wt v1 ≤ 1999990) :
    Calls Try.prog 30 #[.pointer (some ⟨P, 0, none⟩), .pointer (some ⟨a, 0, none⟩), .bool back, .pointer (some ⟨P + 1, 0, none⟩)] w fun e w' => EmitEnd w0 F P ops nl nk nb (vadd v1 (vadd (ve 8) (vadd (ve 9) (vadd (ve 10) (vadd (ve 11) (ve 13)))))) e w' := by
  have hn := hp.node hP ha
  have c0 : w.cell? ⟨a, 0, none⟩ = some (.int .u8 4) := row_cell hn rfl
  have c4 : w.cell? ⟨a, 4, none⟩ = some (.int .i64 mx) := row_cell hn rfl
  obtain ⟨al, cl, p1, -⟩ := hp.appLoops
  have HP : Hid (Prg w0 F w P ops nl nk nb) := hp
  have IH : Hid (EmitAt w0 P k) := ih
  have HA : Hid (w0.heap[a]? = some (.cells (NodeCells 4 (.slice (some ⟨row, 0, none⟩) n cap) sb mn mx gr g gs ng) 81 (0, 0))) := ha
  have HR : Hid (w0.cell? ⟨row, 0, none⟩ = some (.pointer (some ⟨a1, 0, none⟩))) := hr
  have hn' : (0 : Int) < (n : Int) := by omega
  clear hp hn ha ih hr
  go_enter Try.func30, Try.ntmps30
  go_upto_region 36 with fail
  go_cut [0, 15] (fun s r wx => s = .pointer (some ⟨P, 0, none⟩) ∧ r = .int .i64 nl ∧ Hid (Prg w0 F wx P ops (nl + 1) nk nb))
  case first =>
    refine reg36 _ (by kernel_rfl) w0 F w P a ops nl nk nb row n cap sb mn mx gr g gs ng hP HA.out HP.out (by omega) _ (fun _ _ d _ _ h => by cases d <;> exact h) _ _ _ _ _ _ _ _ _ _ _ _ _ _ _ _ _ _ _ _ _ _ _ _ _ _ _ _ _ _ _ _ _ _ _ _ _ _ _ _ _ _ _ _ _ _ _ _ _ _ _ _ _ _ _ _ _ _ _ _ _ _ _ _ _ _ _ _ _ _ _ _ _ _ _ _ _ _ _ _ _ _ _ _ _ _ _ _ _ _ _ _ _ _ _ _ _ _ _ _ _ _ _ _ _ _ _ _ _ _ _ _ _ _ _ _ _ _ _ _ _ _ _ _ _ _ _ _ _ _ _ _ _ _ _ _ _ _ _ _ _ _ _ _ _ _ _ _ _ _ _ _ _ _ _ _ _ _ _ _ _ _ _ _ _ _ _ _ _ _ _ _ _ _ _ _ _ _ _ _ _ _ _ _ _ _ _ _ _ _ _ _ _ _ _ _ _ _ _ _ _ _ _ _ _ _ _ _ _ _ _ _ _ _ _ _ _ _ _ _ _ _ _ _ _ _ _ _ _ _ _ _ _ _ _ _ _ _ _ _ _ _ _ _ _ _ _ _ _ _ _ _ _ _ _ _ _ _ _ _ _ _ _ _ _ _ _ _ _ _ _ _ _ _ _ _ _ _ _ _ _ _ _ _ _ _ _ _ _ _ _ _ _ _ _ _ _ _ _ _ _ _ _ _ _ _ _ _ _ _ ?_
    intro wx t181 t182 t183 t184 t185 t186 t187 t188 t189 t190 t191 t192 t193 t194 t195 t196 t197 t198 t199 t200 t201 t202 t203 t204 t205 t206 t207 t208 t209 t210 HO
    go_wp2_with fail
    go_meet
    exact ⟨rfl, rfl, HO⟩
  case rest =>
  obtain ⟨rfl, rfl, HP1⟩ := hcut
  clear c0 c4 p1 HP
  go_wp2_with fail
  refine (add_any w0 F wc P ops (nl + 1) nk nb 8 false nl 0 0 _ _ _ HP1.out (by omega) (setNil w0) (by omega)).mono ?_
  rintro e w2 ⟨rfl, hp2, -⟩
  have HP2 : Hid (Prg w0 F w2 P (ops ++ [8]) (nl + 1) nk nb) := hp2
  clear hp2 HP1
  go_wp2_with fail
  refine (add_any w0 F w2 P (ops ++ [8]) (nl + 1) nk nb 9 false nl 0 0 _ _ _ HP2.out (by omega) (setNil w0) (by simp; omega)).mono ?_
  rintro e w3 ⟨rfl, hp3, -⟩
  obtain ⟨hd, hhd⟩ : ∃ hd, hd = (ops ++ [8]).length := ⟨_, rfl⟩
  have hlen : (ops ++ [8] ++ [9]).length = hd + 1 := by rw [hhd]; simp
  rw [← hhd]
  obtain ⟨g0, k0, cur0, p0, hb0, hg0, hs0⟩ := hp3.row (by omega)
  rw [hlen] at p0
  have hbd : hd ≤ 1999995 := by rw [hhd]; simp; omega
  have HP3 : Hid (Prg w0 F w3 P (ops ++ [8] ++ [9]) (nl + 1) nk nb) := hp3
  have HLEN : Hid ((ops ++ [8] ++ [9]).length = hd + 1) := hlen
  have HHD : Hid (hd = (ops ++ [8]).length) := hhd
  clear hp3 HP2 hlen hhd hb0 hg0 hs0 cur0
  go_upto_region 39 with fail
  go_cut [0, 15, 16] (fun s r h wx => s = .pointer (some ⟨P, 0, none⟩) ∧ r = .int .i64 nl ∧ h = .int .i64 hd ∧ Hid (Prg w0 F wx P (ops ++ [8] ++ [9] ++ [10]) (nl + 1) nk nb))
  case first =>

    refine reg39 _ (by kernel_rfl) w0 F w3 P (ops ++ [8] ++ [9]) nl (nl + 1) nk nb hd HP3.out HLEN.out hbd _ _ _ _ _ _ _ _ _ _ _ _ _ _ _ _ _ _ _ _ _ _ _ _ _ _ _ _ _ _ _ _ _ _ _ _ _ _ _ _ _ _ _ _ _ _ _ _ _ _ _ _ _ _ _ _ _ _ _ _ _ _ _ _ _ _ _ _ _ _ _ _ _ _ _ _ _ _ _ _ _ _ _ _ _ _ _ _ _ _ _ _ _ _ _ _ _ _ _ _ _ _ _ _ _ _ _ _ _ _ _ _ _ _ _ _ _ _ _ _ _ _ _ _ _ _ _ _ _ _ _ _ _ _ _ _ _ _ _ _ _ _ _ _ _ _ _ _ _ _ _ _ _ _ _ _ _ _ _ _ _ _ _ _ _ _ _ _ _ _ _ _ _ _ _ _ _ _ _ _ _ _ _ _ _ _ _ _ _ _ _ _ _ _ _ _ _ _ _ _ _ _ _ _ _ _ _ _ _ _ _ _ _ _ _ _ _ _ _ _ _ _ _ _ _ _ _ _ _ _ _ _ _ _ _ _ _ _ _ _ _ _ _ _ _ _ _ _ _ _ _ _ _ _ _ _ _ _ _ _ _ _ _ _ _ _ _ _ _ _ _ _ _ _ _ _ _ _ _ _ _ _ _ _ _ _ _ _ _ _ _ _ _ _ _ _ _ _ _ _ _ _ _ _ _ _ _ _ _ _ _ ?_
    intro wx t219 t220 t221 t222 t223 t224 t225 t226 t227 t228 t229 HO
    dsimp only
    go_wp2_with fail
    go_meet
    exact ⟨rfl, rfl, rfl, HO⟩
  case rest =>
  obtain ⟨rfl, rfl, rfl, HP4⟩ := hcut
  clear HP3 p0
  have hn := HP4.out.node hP HA.out
  have d1 : wc.cell? ⟨a, 1, none⟩ = some (.slice (some ⟨row, 0, none⟩) n cap) := row_cell hn rfl
  have r1 : wc.cell? ⟨row, 0, none⟩ = some (.pointer (some ⟨a1, 0, none⟩)) := (HP4.out.below.cell (p := ⟨row, 0, none⟩) (by show row < P; omega)).trans HR.out
  clear hn
  go_wp2_with fail
  refine (IH.out F wc a1 b1 v1 _ (nl + 1) nk nb back hnd HP4.out (by simp; omega)).mono ?_
  rintro e w5 ⟨rfl, ops5, hp5, hc5⟩
  have HP5 : Hid (Prg w0 F w5 P (ops ++ [8] ++ [9] ++ [10] ++ ops5) (nl + 1 + v1 13) (nk + v1 14) (nb + v1 14)) := hp5
  have HC5 : Hid (Cnt ops5 v1) := hc5
  clear hp5 hc5 d1 r1 HP4
  go_wp2_with fail
  refine (add_any w0 F w5 P _ _ _ _ 11 false nl hd 0 _ _ _ HP5.out (by omega) (setNil w0) (by have := HC5.out.2; simp; omega)).mono ?_
  rintro e w6 ⟨rfl, hp6, -⟩
  have HP6 : Hid (Prg w0 F w6 P (ops ++ [8] ++ [9] ++ [10] ++ ops5 ++ [11]) (nl + 1 + v1 13) (nk + v1 14) (nb + v1 14)) := hp6
  obtain ⟨L, hL⟩ : ∃ L, L = (ops ++ [8] ++ [9] ++ [10] ++ ops5 ++ [11]).length := ⟨_, rfl⟩
  obtain ⟨g6, k6, cur6, p6, hb6, hg6, hs6⟩ := hp6.row (by simp; omega)
  rw [← hL] at p6 hs6
  have hdL : hd < L := by rw [hL, HHD.out]; simp
  have hdL' : (hd : Int) < (L : Int) := by omega
  have hLb : L ≤ 3000000 := by rw [hL]; have := HC5.out.2; simp; omega
  obtain ⟨u6, x6, y6⟩ := put_cell hb6 (j := hd * 6 + 4) (by omega)
  have hne : g6 ≠ P := by omega
  have hne' : P ≠ g6 := by omega
  have HQ : Hid (∀ m, Prg w0 F (w6.setCell ⟨g6, hd * 6 + 4, none⟩ (.int .i64 m)).drew P (ops ++ [8] ++ [9] ++ [10] ++ ops5 ++ [11]) (nl + 1 + v1 13) (nk + v1 14) (nb + v1 14)) := fun m => by
    rw [Nat.mul_comm]; exact (hp6.put hb6 hg6 hd 4 (.inr rfl) m).drew
  clear hp6 HP5 HP6 hb6 hg6 hs6 hL
  go_upto_region 42 with fail
  go_region_held3 (fun w' => w'.cell? ⟨P, 0, none⟩ = some (.slice (some ⟨g6, 0, none⟩) L k6)) (go_keep) (fail)
  go_wp2_with fail
  go_end0
  refine ⟨rfl, [8] ++ [9] ++ [10] ++ ops5 ++ [11] ++ [], ?_, ?_⟩
  · have h := HQ.out (L : Int)
    have e1 : nl + vadd v1 (vadd (ve 8) (vadd (ve 9) (vadd (ve 10) (vadd (ve 11) (ve 13))))) 13 = nl + 1 + v1 13 := by simp [vadd, ve]; omega
    have e2 : vadd v1 (vadd (ve 8) (vadd (ve 9) (vadd (ve 10) (vadd (ve 11) (ve 13))))) 14 = v1 14 := by simp [vadd, ve]
    rw [e1, e2]
    simpa [List.append_assoc] using h
  · refine ((((((Cnt.one 8 (by omega)).add (Cnt.one 9 (by omega))).add (Cnt.one 10 (by omega))).add HC5.out).add (Cnt.one 11 (by omega))).add (⟨fun o ho => ?_, by decide⟩ : Cnt [] (ve 13))).eq (fun i _ => by unfold vadd; omega)
    rw [ve, if_neg (by omega)]; rfl
end Go.Proofs.Qxb6001165a
