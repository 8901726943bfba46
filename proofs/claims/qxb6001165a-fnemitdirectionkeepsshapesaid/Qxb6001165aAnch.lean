/-
  THE WALK of anchored.
-/
import Derived.Test.Qxb6001165aTree
namespace Go.Proofs.Qxb6001165a
open Go.RowKit

theorem row_cell {w : World} {a k : Nat} {cs : Array Value} {t : TypeId} {fz : Nat × Nat} {v : Value} (h : w.heap[a]? = some (.cells cs t fz)) (hv : cs[k]? = some v) : w.cell? ⟨a, k, none⟩ = some v := by
  simp [World.cell?, h, hv]
theorem row_frozen {w : World} {a k : Nat} {cs : Array Value} {t : TypeId} (h : w.heap[a]? = some (.cells cs t (0, 0))) : w.frozen? ⟨a, k, none⟩ = false := by
  simp [World.frozen?, h]

theorem ret_bool' {a b : Bool} (h : a = b) : Ending.returned (.bool a) = .returned (.bool b) := by rw [h]

theorem all_true (cs : List (Nat × Bool × (Nat → Nat))) (n : Nat) (h3 : cs.length = n) (i : Nat) (hi : n ≤ i) (h : ∀ j c, j < i → cs[j]? = some c → c.2.1 = true) : (cs.map (·.2.1)).all id = true := by
  rw [List.all_eq_true]
  intro x hx
  obtain ⟨c, hc, rfl⟩ := List.mem_map.1 hx
  obtain ⟨j, hj⟩ := List.getElem?_of_mem hc
  exact h j c (by have := (List.getElem?_eq_some_iff.1 hj).1; omega) hj
theorem all_false (cs : List (Nat × Bool × (Nat → Nat))) (i : Nat) (c : Nat × Bool × (Nat → Nat)) (hc : cs[i]? = some c) (h : c.2.1 = false) : (cs.map (·.2.1)).all id = false := by
  rw [List.all_eq_false]
  exact ⟨c.2.1, List.mem_map.2 ⟨c, List.mem_of_getElem? hc, rfl⟩, by simp [h]⟩

theorem all_next (cs : List (Nat × Bool × (Nat → Nat))) (i : Nat) (c : Nat × Bool × (Nat → Nat)) (h : ∀ j c, j < i → cs[j]? = some c → c.2.1 = true) (hc : cs[i]? = some c) (ht : c.2.1 = true) : ∀ j c, j < i + 1 → cs[j]? = some c → c.2.1 = true := by
  intro j d hj hd
  by_cases e : j = i
  · subst e; rw [hc] at hd; cases hd; exact ht
  · exact h j d (by omega) hd

set_option maxRecDepth 4000 in
set_option maxHeartbeats 1000000 in
theorem anch_any : ∀ (k : Nat) (w : World) (B a : Nat) (b : Bool) (v : Nat → Nat), Nd k w B a b v → Calls Try.prog 28 #[.pointer (some ⟨a, 0, none⟩)] w fun e w' => e = .returned (.bool b) ∧ w = w'
  | 0, _, _, _, _, _, h => h.elim
  | k + 1, w, B, a, b, v, h => by
    have ih : Hid (∀ (w : World) (B a : Nat) (b : Bool) (v : Nat → Nat), Nd k w B a b v → Calls Try.prog 28 #[.pointer (some ⟨a, 0, none⟩)] w fun e w' => e = .returned (.bool b) ∧ w = w') := anch_any k
    obtain ⟨kd, mx, ao, n, cap, cs, sb, mn, gr, g, gs, ng, h1, h2, h3, h4, h5, k0, k11, hn3, hne, hb, hv⟩ := h
    have c0 : w.cell? ⟨a, 0, none⟩ = some (.int .u8 kd) := row_cell h2 rfl
    have c1 : w.cell? ⟨a, 1, none⟩ = some (.slice ao n cap) := row_cell h2 rfl
    have H5 : Hid (∀ c ∈ cs, Nd k w B c.1 c.2.1 c.2.2) := h5
    have HB : Hid (b = anchOf kd (cs.map (·.2.1))) := hb
    clear h2 h5 hb hv h1
    by_cases e8 : kd = 8
    · subst e8
      clear hne h4
      go_enter Try.func28, Try.ntmps28
      go_wp2
      go_ret
      exact ⟨ret_bool' (by rw [HB.out]; rfl), rfl⟩
    have d8 : (kd == 8) = false := by simp [e8]
    by_cases e25 : kd = 2 ∨ kd = 5
    · have hn : 0 < n := hne (by omega)
      rcases h4 with h4 | ⟨row, rfl, hr1, hr2, hc⟩
      · omega
      obtain ⟨c, cs', rfl⟩ : ∃ c cs', cs = c :: cs' := by
        cases cs with
        | nil => simp at h3; omega
        | cons c cs' => exact ⟨c, cs', rfl⟩
      have r0 := hc 0 c rfl
      have hcl := ih.out w B c.1 c.2.1 c.2.2 (H5.out c (by simp))
      have HE : Hid (b = c.2.1) := by
        have := HB.out
        unfold anchOf at this
        rw [if_neg e8, if_pos e25] at this
        exact this
      have HC : Hid (Calls Try.prog 28 #[.pointer (some ⟨c.1, 0, none⟩)] w fun e w' => e = .returned (.bool c.2.1) ∧ w = w') := hcl
      have hn' : (0 : Int) < (n : Int) := by omega
      clear hcl hc hne h3
      rcases e25 with e | e
      · subst e
        go_enter Try.func28, Try.ntmps28
        go_wp2_with fail
        refine HC.out.mono ?_
        rintro e w' ⟨rfl, rfl⟩
        go_wp2
        go_ret
        exact ⟨ret_bool' HE.out.symm, rfl⟩
      · subst e
        go_enter Try.func28, Try.ntmps28
        go_wp2_with fail
        refine HC.out.mono ?_
        rintro e w' ⟨rfl, rfl⟩
        go_wp2
        go_ret
        exact ⟨ret_bool' HE.out.symm, rfl⟩
    · have d2 : (kd == 2) = false := by simp; omega
      have d5 : (kd == 5) = false := by simp; omega
      by_cases e3 : kd = 3
      · subst e3
        have hn : 0 < n := hne (by omega)
        rcases h4 with h4 | ⟨row, rfl, hr1, hr2, hc⟩
        · omega
        have HC : Hid (∀ i c, cs[i]? = some c → w.cell? ⟨row, i, none⟩ = some (.pointer (some ⟨c.1, 0, none⟩))) := hc
        have HE : Hid (b = (cs.map (·.2.1)).all id) := by
          have := HB.out
          unfold anchOf at this
          rw [if_neg e8, if_neg e25, if_pos rfl] at this
          exact this
        clear hc hne HB e8 e25 d8 d2 d5
        go_enter Try.func28, Try.ntmps28
        go_wp2
        go_loop [28] (fun si => ∃ i : Nat, i ≤ n ∧ si = .int .i64 i ∧ Hid (∀ j c, j < i → cs[j]? = some c → c.2.1 = true)) (fun si => n - (intOf si).toNat)
        case atStart => exact ⟨0, by omega, rfl, fun j c h => absurd h (by omega)⟩
        case round =>
          obtain ⟨i, hi, rfl, HI⟩ := hrel
          by_cases hlt : i < n
          · obtain ⟨c, hcI⟩ : ∃ c, cs[i]? = some c := ⟨_, List.getElem?_eq_getElem (by omega)⟩
            have HCI : Hid (cs[i]? = some c) := hcI
            have r0 := HC.out i c hcI
            have HK : Hid (Calls Try.prog 28 #[.pointer (some ⟨c.1, 0, none⟩)] w fun e w' => e = .returned (.bool c.2.1) ∧ w = w') := ih.out w B c.1 c.2.1 c.2.2 (H5.out c (List.mem_of_getElem? hcI))
            clear hcI
            go_wp2_with fail
            refine HK.out.mono ?_
            rintro e w' ⟨rfl, rfl⟩
            go_wp2
            · have hf : c.2.1 = false := by simpa using ‹(!c.2.1) = true›
              go_ret
              exact ⟨ret_bool' (by rw [HE.out]; exact (all_false cs i c HCI.out hf).symm), rfl⟩
            · have ht : c.2.1 = true := by simpa using ‹(!c.2.1) = false›
              go_round
              case rel => exact ⟨i + 1, by omega, by go_num, all_next cs i c HI.out HCI.out ht⟩
              case measure => simp [intOf]; omega
          · go_wp2
            go_ret
            exact ⟨ret_bool' (by rw [HE.out]; exact (all_true cs n h3 i (by omega) HI.out).symm), rfl⟩
      · have d3 : (kd == 3) = false := by simp [e3]
        have HE : Hid (b = false) := by
          have := HB.out
          unfold anchOf at this
          rw [if_neg e8, if_neg e25, if_neg e3] at this
          exact this
        clear hne h4 e8 e25 e3
        go_enter Try.func28, Try.ntmps28
        go_wp2
        go_ret
        exact ⟨ret_bool' HE.out.symm, rfl⟩

theorem zzAnch (k : Nat) (w : World) (B a : Nat) (b : Bool) (v : Nat → Nat) (h : Nd k w B a b v) : Calls Try.prog 13 #[.pointer (some ⟨a, 0, none⟩)] w fun e w' => e = .returned (.bool b) ∧ w = w' := by
  have H : Hid (Calls Try.prog 28 #[.pointer (some ⟨a, 0, none⟩)] w fun e w' => e = .returned (.bool b) ∧ w = w') := anch_any k w B a b v h
  clear h
  go_enter Try.func13, Try.ntmps13
  go_wp2_with fail
  refine H.out.mono ?_
  rintro e w' ⟨rfl, rfl⟩
  go_wp2
  go_ret
  exact ⟨rfl, rfl⟩
end Go.Proofs.Qxb6001165a
