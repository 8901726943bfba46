/-
  emit: lookarounds.
-/
import Derived.Test.Qxb6001165aEmitB
namespace Go.Proofs.Qxb6001165a
open Go.RowKit

theorem oneCell_look (b : Bool) : ∀ u ∈ [Value.int .i64 0, .bool b], u.oneCell' = true := by
  intro u hu
  simp at hu
  rcases hu with rfl | rfl <;> rfl
theorem oneCell_ptr (p : Option Addr) : ∀ u ∈ [Value.pointer p], u.oneCell' = true := by
  intro u hu
  simp at hu
  subst hu; rfl

set_option maxRecDepth 4000 in
set_option maxHeartbeats 2000000 in
theorem emit_6 (w0 F w : World) (P a : Nat) (ops : List Nat) (nl nk nb : Nat) (back : Bool) (sv : Value) (sb : Nat) (mn mx : Int) (gr : Bool) (g gs : Int) (ng : Bool) (hP : w0.heap.size = P) (ha : w0.heap[a]? = some (.cells (NodeCells 6 sv sb mn mx gr g gs ng) 81 (0, 0)))
    (hp : Prg w0 F w P ops nl nk nb) (hl : ops.length + nk + nb ≤ 2000000) :
    Calls Try.prog 30 #[.pointer (some ⟨P, 0, none⟩), .pointer (some ⟨a, 0, none⟩), .bool back, .pointer (some ⟨P + 1, 0, none⟩)] w fun e w' => EmitEnd w0 F P ops nl nk nb (vadd (ve 6) (ve 14)) e w' := by
  have hn := hp.node hP ha
  have c0 : w.cell? ⟨a, 0, none⟩ = some (.int .u8 6) := row_cell hn rfl
  obtain ⟨ax, cx, p2, h0⟩ := hp.appLooks
  clear h0
  have HP : Hid (Prg w0 F w P ops nl nk nb) := hp
  have HA : Hid (w0.heap[a]? = some (.cells (NodeCells 6 sv sb mn mx gr g gs ng) 81 (0, 0))) := ha
  have haP : a < P := by have := heap_lt ha; omega
  clear hp hn ha
  obtain ⟨i0, hi, hz0, hz1, hz2⟩ := info_parts Prg.info84
  obtain ⟨iE, hiE, hzE0, hzE1, hzE2⟩ := info_parts Try.info25
  go_enter Try.func30, Try.ntmps30
  go_wp2_with fail
  refine (add_any w0 F w P ops nl nk nb 6 false nk 0 0 _ _ _ HP.out (by omega) (setNil w0) (by omega)).mono ?_
  rintro e w1 ⟨rfl, hp1, _⟩
  clear p2 c0
  obtain ⟨ak, ck, p2, hW⟩ := hp1.appLooks
  have hn := hp1.node hP HA.out
  have d9 : w1.cell? ⟨a, 9, none⟩ = some (.bool ng) := row_cell hn rfl
  have hs1 : P < w1.heap.size := by have := hp1.size; omega
  obtain ⟨xk, HW, HS, HH⟩ := hW (w1.alloc (.cells #[.int .i64 0, .bool ng] 84)).drew (((Below.refl _ _).alloc (Nat.le_refl _) _).drew) [.int .i64 0, .bool ng]
  have HL : Hid (∀ j u, [Value.int .i64 0, .bool ng][j]? = some u → (w1.alloc (.cells #[.int .i64 0, .bool ng] 84)).drew.cell? ((⟨w1.heap.size, 0, none⟩ : Addr).add j) = some u) := lit_cells (heap_top w1 _)
  clear hn hW hp1
  go_upto_region 45 with fail
  go_cut [0] (fun s wx => s = .pointer (some ⟨P, 0, none⟩) ∧ Hid (Prg w0 F wx P (ops ++ [6]) nl (nk + 1) nb))
  case first =>
    go_region_law (refine step_app rfl (.tmp 271) (.tmp 277) 54 rfl (P + 2) 84 i0 (.agg #[.int .i64 0, .bool false]) 2 16 Try.underlying54 hi hz0 hz1 hz2 rfl (by decide) (.slice ak nk ck) nk xk rfl HW.out ⟨w1.heap.size, 0, none⟩ 1 [.int .i64 0, .bool ng] rfl rfl HL.out (oneCell_look _) (by unfold maxLen; omega) (by omega) HS.out ?_; intro g cap w2 ho1 ha; have HO := HH.out g cap w2 ho1 ha; obtain ⟨q0, qf, HO⟩ := HO; clear ho1 ha)
    all_goals (
      go_wp2_with fail
      go_meet
      exact ⟨rfl, HO⟩)
  case rest =>
  obtain ⟨rfl, HP2⟩ := hcut
  clear p2 d9 hs1 HW HS HH HL
  obtain ⟨aq, cq, p2, hW⟩ := HP2.out.appBodies
  obtain ⟨xq, HW, HS, HH⟩ := hW (wc.alloc (.cells #[.pointer (some ⟨a, 0, none⟩)] 25)) ((Below.refl _ _).alloc (Nat.le_refl _) _) [.pointer (some ⟨a, 0, none⟩)]
  have HL : Hid (∀ j u, [Value.pointer (some ⟨a, 0, none⟩)][j]? = some u → (wc.alloc (.cells #[.pointer (some ⟨a, 0, none⟩)] 25)).cell? ((⟨wc.heap.size, 0, none⟩ : Addr).add j) = some u) := lit_cells (heap_top wc _)
  clear hW
  have hs1 : P + 1 < wc.heap.size := by have := HP2.out.size; omega
  go_wp2_with (at_builtin; refine wpList_app _ rfl (.tmp 284) (.tmp 286) 39 rfl (P + 2) 25 iE (.pointer none) 1 8 Try.underlying39 hiE hzE0 hzE1 hzE2 rfl (by decide) (.slice aq nb cq) nb xq rfl HW.out ⟨wc.heap.size, 0, none⟩ 1 [.pointer (some ⟨a, 0, none⟩)] rfl rfl HL.out (oneCell_ptr _) (by unfold maxLen; omega) (by omega) HS.out ?_; intro g cap w2 ho1 ha; have HO := HH.out g cap w2 ho1 ha; obtain ⟨q0, qf, HO⟩ := HO; clear ho1 ha)
  go_end0
  refine ⟨rfl, [6], by have h := HO.out; simpa [vadd, ve] using h, ((Cnt.one 6 (by omega)).add ⟨fun o ho => ?_, by decide⟩ : Cnt ([6] ++ []) _)⟩
  rw [ve, if_neg (by omega)]; rfl
end Go.Proofs.Qxb6001165a
