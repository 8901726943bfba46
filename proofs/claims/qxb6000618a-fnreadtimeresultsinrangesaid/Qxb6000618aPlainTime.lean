/-
  THE PLAIN FUNCTIONS of the time family (readDigits, zzTwo). No Go in sight.
-/
import Derived.Test.Qxb6000618aPlain
namespace Go.Proofs.Qxb6000618a.Plain

/-- readDigits' loop: the digits as a number behind what has been read, or -1. -/
def rda (v : Int) : List UInt8 → Int
  | [] => v
  | c :: l => if dig c then rda (10 * v + ((c.toNat : Int) - 48)) l else -1

theorem rda_dig (v : Int) (c : UInt8) (l : List UInt8) (h : dig c = true) : rda v (c :: l) = rda (10 * v + ((c.toNat : Int) - 48)) l := by simp [rda, h]
theorem rda_no (v : Int) (c : UInt8) (l : List UInt8) (h : dig c = false) : rda v (c :: l) = -1 := by simp [rda, h]

theorem dig_bounds (c : UInt8) (h : dig c = true) : 48 ≤ (c.toNat : Int) ∧ (c.toNat : Int) ≤ 57 := by
  unfold dig at h; simp at h; omega

/-- Two digits. -/
theorem rda_two (a b : UInt8) (h : 0 ≤ rda 0 [a, b]) : dig a = true ∧ dig b = true ∧ rda 0 [a, b] = 10 * ((a.toNat : Int) - 48) + ((b.toNat : Int) - 48) := by
  by_cases ha : dig a = true
  · by_cases hb : dig b = true
    · exact ⟨ha, hb, by simp [rda, ha, hb]⟩
    · have hb' : dig b = false := by simpa using hb
      rw [rda_dig _ _ _ ha, rda_no _ _ _ hb'] at h; omega
  · have ha' : dig a = false := by simpa using ha
    rw [rda_no _ _ _ ha'] at h; omega

/-- All digits: the number lies within its length. -/
theorem rda_all : ∀ (l : List UInt8) (v : Int), 0 ≤ v → (∀ c ∈ l, dig c = true) → 0 ≤ rda v l ∧ rda v l + 1 ≤ (v + 1) * 10 ^ l.length
  | [], v, h, _ => by simp [rda]; omega
  | c :: l, v, h, hl => by
    have hc := hl c (by simp)
    have hb := dig_bounds c hc
    rw [rda_dig v c l hc]
    have ih := rda_all l (10 * v + ((c.toNat : Int) - 48)) (by omega) (fun d hd => hl d (by simp [hd]))
    refine ⟨ih.1, Int.le_trans ih.2 ?_⟩
    rw [List.length_cons, Int.pow_succ, Int.mul_comm (10 ^ l.length) 10, ← Int.mul_assoc]
    exact Int.mul_le_mul_of_nonneg_right (by omega) (Int.pow_nonneg (by omega))

theorem rda_nine (l : List UInt8) (hn : l.length = 9) (hl : ∀ c ∈ l, dig c = true) : 0 ≤ rda 0 l ∧ rda 0 l ≤ 999999999 := by
  have h := rda_all l 0 (by omega) hl
  rw [hn] at h
  refine ⟨h.1, ?_⟩
  have h2 := h.2
  have e : ((0 : Int) + 1) * 10 ^ 9 = 1000000000 := by decide
  rw [e] at h2
  omega

/-- The two bytes of zzTwo. -/
def two (n : Int) : List UInt8 := [UInt8.ofNat (48 + n / 10).toNat, UInt8.ofNat (48 + n % 10).toNat]

theorem two_back (a b : UInt8) (ha : dig a = true) (hb : dig b = true) : two (10 * ((a.toNat : Int) - 48) + ((b.toNat : Int) - 48)) = [a, b] := by
  have h1 := dig_bounds a ha
  have h2 := dig_bounds b hb
  unfold two
  have e1 : (48 + (10 * ((a.toNat : Int) - 48) + ((b.toNat : Int) - 48)) / 10).toNat = a.toNat := by omega
  have e2 : (48 + (10 * ((a.toNat : Int) - 48) + ((b.toNat : Int) - 48)) % 10).toNat = b.toNat := by omega
  rw [e1, e2]
  simp

end Go.Proofs.Qxb6000618a.Plain
