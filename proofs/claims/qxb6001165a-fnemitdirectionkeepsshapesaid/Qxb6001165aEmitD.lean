/-
  emit: concatenations.
-/
import Derived.Test.Qxb6001165aEmitB
namespace Go.Proofs.Qxb6001165a
open Go.RowKit

theorem vsum_snoc : ∀ (vs : List (Nat → Nat)) (v : Nat → Nat) (i : Nat), vsum (vs ++ [v]) i = vsum vs i + v i
  | [], v, i => by show v i + 0 = 0 + v i; omega
  | u :: vs, v, i => by
    show u i + vsum (vs ++ [v]) i = u i + vsum vs i + v i
    rw [vsum_snoc vs v i]; omega
theorem vsum_split : ∀ (vs : List (Nat → Nat)) (k i : Nat), vsum vs i = vsum (vs.take k) i + vsum (vs.drop k) i
  | [], k, i => by simp [vsum, vz]
  | u :: vs, 0, i => by show vsum (u :: vs) i = 0 + vsum (u :: vs) i; omega
  | u :: vs, k + 1, i => by
    show u i + vsum vs i = u i + vsum (vs.take k) i + vsum (vs.drop k) i
    rw [vsum_split vs k i]; omega
theorem wt_split (vs : List (Nat → Nat)) (k : Nat) : wt (vsum vs) = wt (vsum (vs.take k)) + wt (vsum (vs.drop k)) := by
  unfold wt
  rw [vsum_split vs k 0, vsum_split vs k 1, vsum_split vs k 2, vsum_split vs k 3, vsum_split vs k 4, vsum_split vs k 5, vsum_split vs k 6, vsum_split vs k 7, vsum_split vs k 8, vsum_split vs k 9, vsum_split vs k 10, vsum_split vs k 11, vsum_split vs k 12, vsum_split vs k 13, vsum_split vs k 14]
  omega
theorem take_next {vs : List (Nat → Nat)} {k : Nat} {v : Nat → Nat} (h : vs[k]? = some v) : vs.take (k + 1) = vs.take k ++ [v] := by
  rw [List.take_add_one, h]; rfl
theorem drop_next {vs : List (Nat → Nat)} {k : Nat} {v : Nat → Nat} (h : vs[k]? = some v) : vs.drop k = v :: vs.drop (k + 1) := by
  obtain ⟨h1, rfl⟩ := List.getElem?_eq_some_iff.1 h
  exact List.drop_eq_getElem_cons h1

/-- How far a concatenation has come. -/
def Cat (w0 F wr : World) (P : Nat) (ops : List Nat) (nl nk nb : Nat) (u : Nat → Nat) : Prop := ∃ ops', Prg w0 F wr P (ops ++ ops') (nl + u 13) (nk + u 14) (nb + u 14) ∧ Cnt ops' u
theorem Cat.next {w0 F w2 : World} {P : Nat} {ops : List Nat} {nl nk nb : Nat} {u v x : Nat → Nat} {ops' ops2 : List Nat} (h1 : Cnt ops' u)
    (h2 : Prg w0 F w2 P (ops ++ ops' ++ ops2) (nl + u 13 + v 13) (nk + u 14 + v 14) (nb + u 14 + v 14)) (h3 : Cnt ops2 v) (hx : ∀ i, i ≤ 14 → u i + v i = x i) : Cat w0 F w2 P ops nl nk nb x := by
  refine ⟨ops' ++ ops2, ?_, (h1.add h3).eq (fun i hi => hx i hi)⟩
  rw [← hx 13 (by omega), ← hx 14 (by omega), ← List.append_assoc, ← Nat.add_assoc, ← Nat.add_assoc, ← Nat.add_assoc]
  exact h2

set_option maxRecDepth 4000 in
set_option maxHeartbeats 2000000 in
theorem emit_2f (w0 F w : World) (P a k : Nat) (ops : List Nat) (nl nk nb : Nat) (row n cap : Nat) (sb : Nat) (mn mx : Int) (gr : Bool) (g gs : Int) (ng : Bool) (hP : w0.heap.size = P) (ha : w0.heap[a]? = some (.cells (NodeCells 2 (.slice (some ⟨row, 0, none⟩) n cap) sb mn mx gr g gs ng) 81 (0, 0)))
    (cs : List (Nat × Bool × (Nat → Nat))) (hcs : cs.length = n) (hn3 : n ≤ 3) (hrow : row < w0.heap.size) (hr : ∀ i c, cs[i]? = some c → w0.cell? ⟨row, i, none⟩ = some (.pointer (some ⟨c.1, 0, none⟩))) (hnd : ∀ c ∈ cs, Nd k w0 0 c.1 c.2.1 c.2.2) (ih : EmitAt w0 P k) (hp : Prg w0 F w P ops nl nk nb)
    (hl : ops.length + nl + nk + nb + 2 * wt (vsum (cs.map (·.2.2))) ≤ 2000000) :
    Calls Try.prog 30 #[.pointer (some ⟨P, 0, none⟩), .pointer (some ⟨a, 0, none⟩), .bool false, .pointer (some ⟨P + 1, 0, none⟩)] w fun e w' => EmitEnd w0 F P ops nl nk nb (vsum (cs.map (·.2.2))) e w' := by
  have hn := hp.node hP ha
  have c0 : w.cell? ⟨a, 0, none⟩ = some (.int .u8 2) := row_cell hn rfl
  have c1 : w.cell? ⟨a, 1, none⟩ = some (.slice (some ⟨row, 0, none⟩) n cap) := row_cell hn rfl
  have HP : Hid (Prg w0 F w P ops nl nk nb) := hp
  have IH : Hid (EmitAt w0 P k) := ih
  have HA : Hid (w0.heap[a]? = some (.cells (NodeCells 2 (.slice (some ⟨row, 0, none⟩) n cap) sb mn mx gr g gs ng) 81 (0, 0))) := ha
  have HR : Hid (∀ i c, cs[i]? = some c → w0.cell? ⟨row, i, none⟩ = some (.pointer (some ⟨c.1, 0, none⟩))) := hr
  have HN : Hid (∀ c ∈ cs, Nd k w0 0 c.1 c.2.1 c.2.2) := hnd
  have HL : Hid (ops.length + nl + nk + nb + 2 * wt (vsum (cs.map (·.2.2))) ≤ 2000000) := hl
  have HCS : Hid (cs.length = n) := hcs
  clear hp hn ha ih hr hnd hl hcs
  go_enter Try.func30, Try.ntmps30
  go_wp2
  go_loopw [38] (fun si wr => ∃ i : Nat, i ≤ n ∧ si = .int .i64 i ∧ Hid (Cat w0 F wr P ops nl nk nb (vsum ((cs.map (·.2.2)).take i)))) (fun si _ => n - (intOf si).toNat)
  case atStart => exact ⟨0, by omega, rfl, [], by rw [List.append_nil]; exact HP.out, Cnt.nil⟩
  case round =>
    obtain ⟨i, hi, rfl, HC⟩ := hrel
    obtain ⟨ops', hp', hc'⟩ := HC.out
    have hn := hp'.node hP HA.out
    have d1 : wr.cell? ⟨a, 1, none⟩ = some (.slice (some ⟨row, 0, none⟩) n cap) := row_cell hn rfl
    by_cases hlt : i < n
    · obtain ⟨c, hci⟩ : ∃ c, cs[i]? = some c := ⟨_, List.getElem?_eq_getElem (by have := HCS.out; omega)⟩
      have r1 : wr.cell? ⟨row, i, none⟩ = some (.pointer (some ⟨c.1, 0, none⟩)) := (hp'.below.cell (p := ⟨row, i, none⟩) (by show row < P; omega)).trans (HR.out i c hci)
      have HPR : Hid (Prg w0 F wr P (ops ++ ops') (nl + vsum ((cs.map (·.2.2)).take i) 13) (nk + vsum ((cs.map (·.2.2)).take i) 14) (nb + vsum ((cs.map (·.2.2)).take i) 14)) := hp'
      have HCR : Hid (Cnt ops' (vsum ((cs.map (·.2.2)).take i))) := hc'
      have HCI : Hid (cs[i]? = some c) := hci
      clear hp' hc' hn hci HC
      go_wp2_with fail
      refine (IH.out F wr c.1 c.2.1 c.2.2 _ _ _ _ false (HN.out c (List.mem_of_getElem? HCI.out)) HPR.out ?_).mono ?_
      · have h1 := HL.out
        have h2 := HCR.out.2
        have h3 := wt_split (cs.map (·.2.2)) i
        have h4 := drop_next (vs := cs.map (·.2.2)) (k := i) (v := c.2.2) (by simp [HCI.out])
        rw [h4] at h3
        have h5 : wt (vsum (c.2.2 :: (cs.map (·.2.2)).drop (i + 1))) = wt c.2.2 + wt (vsum ((cs.map (·.2.2)).drop (i + 1))) := wt_vadd _ _
        rw [List.length_append]
        omega
      rintro e w1 ⟨rfl, ops2, hp2, hc2⟩
      have HX : Hid (Cat w0 F w1 P ops nl nk nb (vsum ((cs.map (·.2.2)).take (i + 1)))) := Cat.next HCR.out hp2 hc2 (fun j _ => by rw [take_next (v := c.2.2) (by simp [HCI.out]), vsum_snoc])
      clear hp2 hc2
      go_wp2
      go_roundw
      case rel => exact ⟨i + 1, by omega, by go_num, HX⟩
      case measure => simp [intOf]; omega
    · obtain rfl : i = n := by omega
      go_wp2
      go_end0
      have h := HC.out
      rw [List.take_of_length_le (by simp; have := HCS.out; omega)] at h
      exact ⟨rfl, h⟩
set_option maxRecDepth 4000 in
set_option maxHeartbeats 2000000 in
theorem emit_2b (w0 F w : World) (P a k : Nat) (ops : List Nat) (nl nk nb : Nat) (row n cap : Nat) (sb : Nat) (mn mx : Int) (gr : Bool) (g gs : Int) (ng : Bool) (hP : w0.heap.size = P) (ha : w0.heap[a]? = some (.cells (NodeCells 2 (.slice (some ⟨row, 0, none⟩) n cap) sb mn mx gr g gs ng) 81 (0, 0)))
    (cs : List (Nat × Bool × (Nat → Nat))) (hcs : cs.length = n) (hn3 : n ≤ 3) (hrow : row < w0.heap.size) (hr : ∀ i c, cs[i]? = some c → w0.cell? ⟨row, i, none⟩ = some (.pointer (some ⟨c.1, 0, none⟩))) (hnd : ∀ c ∈ cs, Nd k w0 0 c.1 c.2.1 c.2.2) (ih : EmitAt w0 P k) (hp : Prg w0 F w P ops nl nk nb)
    (hl : ops.length + nl + nk + nb + 2 * wt (vsum (cs.map (·.2.2))) ≤ 2000000) :
    Calls Try.prog 30 #[.pointer (some ⟨P, 0, none⟩), .pointer (some ⟨a, 0, none⟩), .bool true, .pointer (some ⟨P + 1, 0, none⟩)] w fun e w' => EmitEnd w0 F P ops nl nk nb (vsum (cs.map (·.2.2))) e w' := by
  have hn := hp.node hP ha
  have c0 : w.cell? ⟨a, 0, none⟩ = some (.int .u8 2) := row_cell hn rfl
  have c1 : w.cell? ⟨a, 1, none⟩ = some (.slice (some ⟨row, 0, none⟩) n cap) := row_cell hn rfl
  have HP : Hid (Prg w0 F w P ops nl nk nb) := hp
  have IH : Hid (EmitAt w0 P k) := ih
  have HA : Hid (w0.heap[a]? = some (.cells (NodeCells 2 (.slice (some ⟨row, 0, none⟩) n cap) sb mn mx gr g gs ng) 81 (0, 0))) := ha
  have HR : Hid (∀ i c, cs[i]? = some c → w0.cell? ⟨row, i, none⟩ = some (.pointer (some ⟨c.1, 0, none⟩))) := hr
  have HN : Hid (∀ c ∈ cs, Nd k w0 0 c.1 c.2.1 c.2.2) := hnd
  have HL : Hid (ops.length + nl + nk + nb + 2 * wt (vsum (cs.map (·.2.2))) ≤ 2000000) := hl
  have HCS : Hid (cs.length = n) := hcs
  clear hp hn ha ih hr hnd hl hcs
  go_enter Try.func30, Try.ntmps30
  go_wp2
  go_loopw [38] (fun si wr => ∃ i : Nat, i ≤ n ∧ si = .int .i64 i ∧ Hid (Cat w0 F wr P ops nl nk nb (vsum ((cs.map (·.2.2)).drop (n - i))))) (fun si _ => n - (intOf si).toNat)
  case atStart => exact ⟨0, by omega, rfl, [], by rw [List.drop_of_length_le (by simp; have := HCS.out; omega), List.append_nil]; exact HP.out, by rw [List.drop_of_length_le (by simp; have := HCS.out; omega)]; exact Cnt.nil⟩
  case round =>
    obtain ⟨i, hi, rfl, HC⟩ := hrel
    obtain ⟨ops', hp', hc'⟩ := HC.out
    have hn := hp'.node hP HA.out
    have d1 : wr.cell? ⟨a, 1, none⟩ = some (.slice (some ⟨row, 0, none⟩) n cap) := row_cell hn rfl
    by_cases hlt : i < n
    · have hx : (n : Int) - 1 - (i : Int) = ((n - 1 - i : Nat) : Int) := by omega
      have hx2 : ((n - 1 - i : Nat) : Int) < (n : Int) := by omega
      obtain ⟨c, hci⟩ : ∃ c, cs[n - 1 - i]? = some c := ⟨_, List.getElem?_eq_getElem (by have := HCS.out; omega)⟩
      have r1 : wr.cell? ⟨row, n - 1 - i, none⟩ = some (.pointer (some ⟨c.1, 0, none⟩)) := (hp'.below.cell (p := ⟨row, n - 1 - i, none⟩) (by show row < P; omega)).trans (HR.out (n - 1 - i) c hci)
      have HPR : Hid (Prg w0 F wr P (ops ++ ops') (nl + vsum ((cs.map (·.2.2)).drop (n - i)) 13) (nk + vsum ((cs.map (·.2.2)).drop (n - i)) 14) (nb + vsum ((cs.map (·.2.2)).drop (n - i)) 14)) := hp'
      have HCR : Hid (Cnt ops' (vsum ((cs.map (·.2.2)).drop (n - i)))) := hc'
      have HCI : Hid (cs[n - 1 - i]? = some c) := hci
      clear hp' hc' hn hci HC
      go_wp2_with fail
      refine (IH.out F wr c.1 c.2.1 c.2.2 _ _ _ _ true (HN.out c (List.mem_of_getElem? HCI.out)) HPR.out ?_).mono ?_
      · have h1 := HL.out
        have h2 := HCR.out.2
        have h3 := wt_split (cs.map (·.2.2)) (n - 1 - i)
        have h4 := drop_next (vs := cs.map (·.2.2)) (k := n - 1 - i) (v := c.2.2) (by simp [HCI.out])
        rw [h4] at h3
        have h5 : wt (vsum (c.2.2 :: (cs.map (·.2.2)).drop (n - 1 - i + 1))) = wt c.2.2 + wt (vsum ((cs.map (·.2.2)).drop (n - 1 - i + 1))) := wt_vadd _ _
        rw [show n - 1 - i + 1 = n - i by omega] at h3 h5
        rw [List.length_append]
        omega
      rintro e w1 ⟨rfl, ops2, hp2, hc2⟩
      have HX : Hid (Cat w0 F w1 P ops nl nk nb (vsum ((cs.map (·.2.2)).drop (n - (i + 1))))) := Cat.next HCR.out hp2 hc2 (fun j _ => by
        rw [show n - (i + 1) = n - 1 - i by omega, drop_next (v := c.2.2) (k := n - 1 - i) (by simp [HCI.out]), show n - 1 - i + 1 = n - i by omega]
        show _ = c.2.2 j + _
        omega)
      clear hp2 hc2
      go_wp2
      go_roundw
      case rel => exact ⟨i + 1, by omega, by go_num, HX⟩
      case measure => simp [intOf]; omega
    · obtain rfl : i = n := by omega
      go_wp2
      go_end0
      have h := HC.out
      rw [Nat.sub_self, List.drop_zero] at h
      exact ⟨rfl, h⟩
end Go.Proofs.Qxb6001165a
