/-
  zzClone; the bounds' functions.
-/
import Derived.Test.Qxb6001165aDecode
namespace Go.Proofs.Qxb6001165a
open Go.RowKit

theorem Try.info5 : (Try.prog.info? 5).map (fun i => (i.zero, i.size, i.bytes)) = some (some (.int .u8 0), 1, 1) := by kernel_rfl

/-- A slice of bytes that came in. -/
def InRow (w : World) (a : Option Addr) (len cap : Nat) (zs : List Int) : Prop :=
  (a = none ∧ len = 0 ∧ cap = 0 ∧ zs = []) ∨
  ∃ x, a = some x ∧ len ≤ cap ∧ cap ≤ maxLen ∧ zs.length = cap ∧ (∀ i, i < zs.length → w.cell? (x.add i) = some (.int .u8 (zs.getD i 0))) ∧ ∀ n ∈ zs, (Lit.int .u8 n).wf = true

set_option maxRecDepth 4000 in
set_option maxHeartbeats 400000 in
theorem clone_nil (w : World) : Calls Try.prog 11 #[.slice none 0 0] w fun e w' => e = .returned (.slice none 0 0) ∧ w = w' := by
  have hq : ∀ w, (binOp .eql 22 (.slice none 0 0) (.slice none 0 0)).run Try.prog w = .ok (.bool true) w := fun w => Lib.run_eql_slice_nil w 22 5 none 0 0 0 0 Try.underlying22
  go_enter Try.func11, Try.ntmps11
  go_wp2
  go_ret
  exact ⟨rfl, rfl⟩

set_option maxRecDepth 4000 in
set_option maxHeartbeats 400000 in
theorem clone_row (tb ot len cap : Nat) (zs : List Int) (w : World) (hl : len ≤ 65536) (hlc : len ≤ cap) (hb : tb < w.heap.size) (hz : zs.length = cap)
    (hc : ∀ i, i < zs.length → w.cell? ⟨tb, ot + i, none⟩ = some (.int .u8 (zs.getD i 0))) (hw : ∀ n ∈ zs, 0 ≤ n ∧ n ≤ 255) :
    Calls Try.prog 11 #[.slice (some ⟨tb, ot, none⟩) len cap] w fun e w' => e = .returned (.slice (some ⟨w.heap.size, 0, none⟩) len len) ∧ Toks w' w'.heap.size (.slice (some ⟨w.heap.size, 0, none⟩) len len) len ∧ Below w.heap.size w w' := by
  obtain ⟨i0, hi, hz0, hz1, hz2⟩ := info_parts Try.info5
  have HC : Hid (∀ i, i < zs.length → w.cell? ⟨tb, ot + i, none⟩ = some (.int .u8 (zs.getD i 0))) := hc
  have HW : Hid (∀ n ∈ zs, 0 ≤ n ∧ n ≤ 255) := hw
  clear hc hw
  have hq : ∀ w, (binOp .eql 22 (.slice (some ⟨tb, ot, none⟩) len cap) (.slice none 0 0)).run Try.prog w = .ok (.bool false) w := fun w => Lib.run_eql_slice_nil w 22 5 _ len cap 0 0 Try.underlying22
  go_enter Try.func11, Try.ntmps11
  go_wp2_with (at_make; refine wpList_make_full _ rfl _ _ 22 rfl w.heap.size 5 i0 (.int .u8 0) 1 Try.underlying22 hi hz0 hz1 _ _ _ _ len rfl rfl rfl rfl (by rw [hz2]; omega) (by unfold maxLen; omega) (Nat.le_refl _) ?_; intro w0 hown0 hgrow0)
  rw [show (Value.int .u8 0).cells = #[Value.int .u8 0] from rfl, toList_madeCells_one] at hown0
  go_loopw [4] (fun si wr => ∃ (i : Nat) (xs : List Value), i ≤ len ∧ si = .int .i64 i ∧ wr.ownsRow w.heap.size 5 1 (.slice (some ⟨w.heap.size, 0, none⟩) len len) len xs ∧ Hid (∀ u ∈ xs, ∃ c : Nat, c < 256 ∧ u = .int .u8 c) ∧ Below w.heap.size w wr)
    (fun si _ => len - (intOf si).toNat)
  case atStart => exact ⟨0, _, by omega, rfl, hown0, fun u hu => ⟨0, by omega, (List.mem_replicate.1 hu).2⟩, (Below.refl _ _).grown hgrow0 (Nat.le_refl _) (fun k h => by cases h)⟩
  case round =>
    obtain ⟨i, xs, hil, rfl, hown, HX, hbel⟩ := hrel
    by_cases hlt : i < len
    · have hlt' : (i : Int) < (len : Int) := by omega
      have g0 := (hbel.cell (p := ⟨tb, ot + i, none⟩) hb).trans (HC.out i (by omega))
      obtain ⟨c, hc1, hc2⟩ : ∃ c : Nat, zs.getD i 0 = (c : Int) ∧ c < 256 := by
        have hm : zs.getD i 0 ∈ zs := by
          have e : zs.getD i 0 = zs[i]'(by omega) := by simp [List.getD, List.getElem?_eq_getElem (show i < zs.length by omega)]
          rw [e]; exact List.getElem_mem _
        have := HW.out _ hm
        exact ⟨(zs.getD i 0).toNat, by omega, by omega⟩
      rw [hc1] at g0
      clear hc1
      have hxl : xs.length = len := by have := hown.1; omega
      obtain ⟨v1, g1⟩ : ∃ v1, wr.cell? ⟨w.heap.size, i, none⟩ = some v1 := ⟨_, (hown.cellAt i (by omega)).trans (List.getElem?_eq_getElem (by omega))⟩
      have f1 := hown.frozenAt i
      go_wp2
      obtain ⟨hown2, hgrow2⟩ := hown.stored i (.int .u8 c)
      go_roundw
      case rel => exact ⟨i + 1, _, by omega, by go_num, hown2, fun u hu => (List.mem_or_eq_of_mem_set hu).elim (HX.out u) (fun e => ⟨c, hc2, e⟩), hbel.setCell (Nat.le_refl _) _⟩
      case measure => simp [intOf]; omega
    · go_wp2
      go_ret
      refine ⟨rfl, .inr ⟨w.heap.size, rfl, (hown.lt w.heap.size rfl).2, fun j hj => ?_⟩, hbel⟩
      have hxl : xs.length = len := by have := hown.1; omega
      have hcell := (hown.cellAt j (by omega)).trans (List.getElem?_eq_getElem (show j < xs.length by omega))
      obtain ⟨c, hc1, hc2⟩ := HX.out _ (List.getElem_mem (show j < xs.length by omega))
      rw [hc2] at hcell
      exact ⟨c, hc1, hcell⟩

set_option maxRecDepth 4000 in
set_option maxHeartbeats 400000 in
theorem clone_empty (x : Addr) (cap : Nat) (w : World) :
    Calls Try.prog 11 #[.slice (some x) 0 cap] w fun e w' => e = .returned (.slice (some ⟨w.heap.size, 0, none⟩) 0 0) ∧ Below w.heap.size w w' ∧ w.heap.size < w'.heap.size := by
  obtain ⟨i0, hi, hz0, hz1, hz2⟩ := info_parts Try.info5
  have hq : ∀ w, (binOp .eql 22 (.slice (some x) 0 cap) (.slice none 0 0)).run Try.prog w = .ok (.bool false) w := fun w => Lib.run_eql_slice_nil w 22 5 _ 0 cap 0 0 Try.underlying22
  go_enter Try.func11, Try.ntmps11
  go_wp2_with (at_make; refine wpList_make_full _ rfl _ _ 22 rfl w.heap.size 5 i0 (.int .u8 0) 1 Try.underlying22 hi hz0 hz1 _ _ _ _ 0 rfl rfl rfl rfl (by omega) (by omega) (Nat.le_refl _) ?_; intro w0 hown0 hgrow0)
  have hB : Below w.heap.size w w0 := (Below.refl _ _).grown hgrow0 (Nat.le_refl _) (fun k h => by cases h)
  have hL := (hown0.lt w.heap.size rfl).2
  clear hown0 hgrow0
  refine wp_loop_rounds 1 ?_
  rw [rounds_succ]
  go_wp2
  go_ret
  exact ⟨rfl, hB, hL⟩

/-- zzClone at whatever slice came in. -/
theorem clone_any (ao : Option Addr) (len cap : Nat) (zs : List Int) (w : World) (hl : len ≤ 65536) (h : InRow w ao len cap zs) :
    Calls Try.prog 11 #[.slice ao len cap] w fun e w' => ∃ ao', e = .returned (.slice ao' len len) ∧ Toks w' w'.heap.size (.slice ao' len len) len ∧ Below w.heap.size w w' := by
  rcases h with ⟨rfl, rfl, rfl, rfl⟩ | ⟨x, rfl, h1, h2, h3, h4, h5⟩
  · refine (clone_nil w).mono ?_
    rintro e w' ⟨rfl, rfl⟩
    exact ⟨none, rfl, .inl ⟨rfl, rfl⟩, Below.refl _ _⟩
  · by_cases hc0 : len = 0
    · subst hc0
      refine (clone_empty x cap w).mono ?_
      rintro e w' ⟨rfl, hb⟩
      exact ⟨_, rfl, .inr ⟨w.heap.size, rfl, hb.2, fun i hi => absurd hi (by omega)⟩, hb.1⟩
    · obtain ⟨tb, ot, sp⟩ := x
      have h40 := h4 0 (by omega)
      have hs : sp = none := by simpa [Addr.add] using World.cell?_spot h40
      subst hs
      have hbl : tb < w.heap.size := by
        rcases Nat.lt_or_ge tb w.heap.size with h' | h'
        · exact h'
        · rw [Addr.add_lit] at h40
          simp [World.cell?, Array.getElem?_eq_none h'] at h40
      refine (clone_row tb ot len cap zs w hl h1 hbl h3 (fun i hi => by have := h4 i hi; rw [Addr.add_lit] at this; exact this) (fun n hn => ?_)).mono ?_
      · have := h5 n hn
        simp [Lit.wf, IntKind.min, IntKind.max, IntKind.bits, IntKind.signed] at this
        omega
      · rintro e w' ⟨rfl, ht, hb⟩
        exact ⟨_, rfl, ht, hb⟩
end Go.Proofs.Qxb6001165a
