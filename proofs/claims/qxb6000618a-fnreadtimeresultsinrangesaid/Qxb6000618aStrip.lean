/-
  THE WALK of zzStripUnderscores: a make, appends within the capacity, string(b).
-/
import Derived.Test.Qxb6000618aLawSign
import Derived.Laws.IdiomStrings
namespace Go.Proofs.Qxb6000618a
open Go.RowKit Plain

def ne95 (c : UInt8) : Bool := !(c == 95)
def bcells (l : List UInt8) : List Value := l.map fun c => Value.int .u8 (c.toNat : Int)
theorem Try.info5 : (Try.prog.info? 5).map (fun i => (i.zero, i.size, i.bytes)) = some (some (.int .u8 0), 1, 1) := by kernel_rfl

theorem take_snoc (s : ByteArray) (k : Nat) (h : k < s.size) : s.data.toList.take (k + 1) = s.data.toList.take k ++ [s[k]] := by
  rw [List.take_succ_eq_append_getElem (by simpa using h)]; rfl
theorem strip_keep (s : ByteArray) (k : Nat) (h : k < s.size) (l : List UInt8) (hl : l = (s.data.toList.take k).filter ne95) (hc : ¬ (s[k].toNat : Int) = 95) : l ++ [s[k]] = (s.data.toList.take (k + 1)).filter ne95 := by
  rw [take_snoc s k h, List.filter_append, hl]
  have : ne95 s[k] = true := by unfold ne95; rw [bnen s[k] 95 hc]; rfl
  simp [this]
theorem strip_drop (s : ByteArray) (k : Nat) (h : k < s.size) (l : List UInt8) (hl : l = (s.data.toList.take k).filter ne95) (hc : (s[k].toNat : Int) = 95) : l = (s.data.toList.take (k + 1)).filter ne95 := by
  rw [take_snoc s k h, List.filter_append, hl]
  have : ne95 s[k] = false := by unfold ne95; rw [beqn s[k] 95 hc]; rfl
  simp [this]
theorem bcells_snoc (l : List UInt8) (c : UInt8) : bcells (l ++ [c]) = bcells l ++ [Value.int .u8 (c.toNat : Int)] := by simp [bcells]

set_option maxRecDepth 4000 in
set_option maxHeartbeats 1000000 in
theorem strip_any (s : ByteArray) (w : World) (hs : s.size ≤ 2000000) : Calls Try.prog 19 #[.string s] w fun e w' => e = .returned (.string ⟨(s.data.toList.filter ne95).toArray⟩) ∧ Below w.heap.size w w' := by
  obtain ⟨i0, hi, hz0, hz1, hz2⟩ := info_parts Try.info5
  go_enter Try.func19, Try.ntmps19
  go_wp2_with (at_make; refine wpList_make_own _ rfl _ _ 32 rfl w.heap.size 5 i0 (.int .u8 0) 1 Try.underlying32 hi hz0 hz1 _ _ _ s.size rfl rfl rfl ?b2 ?b3 (Nat.le_refl _) ?_)
  case b2 => rw [hz2]; omega
  case b3 => unfold maxLen; omega
  intro w0 hown0 hgrow0
  go_wp2
  go_loopw [3, 4] (fun sb sk wr => ∃ (k : Nat) (l : List UInt8), k ≤ s.size ∧ sk = .int .i64 k ∧ Hid (l = (s.data.toList.take k).filter ne95) ∧ l.length ≤ k ∧ sb = .slice (some ⟨w.heap.size, 0, none⟩) l.length s.size ∧
      wr.ownsRow w.heap.size 5 1 (.slice (some ⟨w.heap.size, 0, none⟩) l.length s.size) l.length (bcells l) ∧ Below w.heap.size w wr)
    (fun _ sk _ => s.size - (intOf sk).toNat)
  case atStart => exact ⟨0, [], Nat.zero_le _, rfl, rfl, Nat.zero_le _, rfl, hown0, (Below.refl _ _).grown hgrow0 (Nat.le_refl _) (fun k h => by cases h)⟩
  case round =>
    obtain ⟨k, l, hk, rfl, HL, hll, rfl, hown, hnx⟩ := hrel
    by_cases hlt : k < s.size
    · go_wp2_with (at_builtin; refine wpList_append_fits _ rfl (.tmp 18) (.tmp 22) 32 rfl w.heap.size 5 i0 1 Try.underlying32 hi hz1 w.heap.size l.length s.size _ rfl (hown.alloc _) ⟨wr.heap.size, 0, none⟩ 1 1 [.int .u8 (s[k].toNat : Int)] rfl rfl (by intro t u ht; match t, ht with | 0, ht => simp at ht; subst ht; simp [Addr.add]) (by intro u hu; simp at hu; subst hu; rfl) (by omega) ?_; intro w1 hown1 hgrow1)
      · have hc : ¬ (s[k].toNat : Int) = 95 := by simpa using ‹((s[k].toNat : Int) != 95) = true›
        go_roundw
        case rel => exact ⟨k + 1, l ++ [s[k]], by omega, by go_num, strip_keep s k hlt l HL.out hc, by simp; omega, by simp, by rw [bcells_snoc, List.length_append]; exact hown1, (hnx.alloc hnx.size _).grown hgrow1 (by have := hnx.size; simp; omega) (fun g hg => by cases hg; exact Nat.le_refl _)⟩
        case measure => simp [intOf]; omega
      · have hc : (s[k].toNat : Int) = 95 := by simpa using ‹((s[k].toNat : Int) != 95) = false›
        go_roundw
        case rel => exact ⟨k + 1, l, by omega, by go_num, strip_drop s k hlt l HL.out hc, by omega, rfl, hown, hnx⟩
        case measure => simp [intOf]; omega
    · have hcv := run_convert_bytes_back (P := Try.prog) wr 32 9 5 ⟨w.heap.size, 0, none⟩ s.size l Try.underlying32 Try.underlying5 Try.underlying9 (fun j hj => by
        exact hown.cells rfl j _ (by simp [bcells, hj]))
      go_wp2
      go_ret
      have hl : l = s.data.toList.filter ne95 := by rw [HL.out, List.take_of_length_le (by simp; omega)]
      exact ⟨by rw [← hl]; rfl, hnx⟩
end Go.Proofs.Qxb6000618a
