/-
  THE PLAIN LAW: a float stays a float when its underscores are taken out. No Go in sight.
-/
import Derived.Test.Qxb6000618aPlain
namespace Go.Proofs.Qxb6000618a.Plain

/-- No underscore. -/
def nu (c : UInt8) : Bool := !(c == 95)

theorem nu_of_dig (c : UInt8) (h : dig c = true) : nu c = true := by
  unfold nu; unfold dig at h
  simp at h ⊢
  intro e; subst e; simp at h
theorem nu_of_ne (c : UInt8) (h : ¬ c.toNat = 95) : nu c = true := by
  unfold nu; simp; intro e; subst e; exact h rfl
theorem nu_95 (c : UInt8) (h : c.toNat = 95) : nu c = false := by
  unfold nu; simp; exact UInt8.toNat_inj.1 h

theorem filter_keep (c : UInt8) (l : List UInt8) (h : nu c = true) : (c :: l).filter nu = c :: l.filter nu := by simp [h]
theorem filter_drop (c : UInt8) (l : List UInt8) (h : nu c = false) : (c :: l).filter nu = l.filter nu := by simp [h]

theorem ddl_strip : ∀ (l r : List UInt8), ddl l = some r → ddl (l.filter nu) = some (r.filter nu) ∧ (r = [] ∨ ∃ c t, r = c :: t ∧ nu c = true ∧ dig c = false)
  | [], r, h => by simp [ddl] at h; subst h; exact ⟨rfl, .inl rfl⟩
  | c :: l, r, h => by
    by_cases hd0 : dig c = true
    · rw [ddl_dig c l hd0] at h
      obtain ⟨h1, h2⟩ := ddl_strip l r h
      rw [filter_keep c l (nu_of_dig c hd0), ddl_dig _ _ hd0]
      exact ⟨h1, h2⟩
    · have hd1 : dig c = false := by simpa using hd0
      by_cases hc : c.toNat = 95
      · by_cases hh : hd dig l = true
        · rw [ddl_us c l hc hh] at h
          obtain ⟨h1, h2⟩ := ddl_strip l r h
          rw [filter_drop c l (nu_95 c hc)]
          exact ⟨h1, h2⟩
        · rw [ddl_us_no c l hc (by simpa using hh)] at h
          simp at h
      · rw [ddl_other c l hd1 hc] at h
        simp at h; subst h
        rw [filter_keep c l (nu_of_ne c hc), ddl_other c _ hd1 hc]
        exact ⟨rfl, .inr ⟨c, l, rfl, nu_of_ne c hc, hd1⟩⟩

theorem dd_strip (l r : List UInt8) (h : dd l = some r) : (∃ c t, l = c :: t ∧ dig c = true) ∧ dd (l.filter nu) = some (r.filter nu) ∧ (r = [] ∨ ∃ c t, r = c :: t ∧ nu c = true ∧ dig c = false) := by
  cases l with
  | nil => simp [dd] at h
  | cons c l =>
    by_cases hd0 : dig c = true
    · simp only [dd, hd0, if_true] at h
      obtain ⟨h1, h2⟩ := ddl_strip l r h
      refine ⟨⟨c, l, rfl, hd0⟩, ?_, h2⟩
      rw [filter_keep c l (nu_of_dig c hd0)]
      simp only [dd, hd0, if_true]
      exact h1
    · simp [dd, hd0] at h

/-- The head is the same where it is no underscore. -/
def Clean (l : List UInt8) : Prop := l = [] ∨ ∃ c t, l = c :: t ∧ nu c = true

theorem hd_strip (p : UInt8 → Bool) (l : List UInt8) (h : Clean l) : hd p (l.filter nu) = hd p l := by
  rcases h with rfl | ⟨c, t, rfl, h⟩
  · rfl
  · rw [filter_keep c t h]; rfl
theorem tail_strip (l : List UInt8) (h : Clean l) : (l.filter nu).tail = l.tail.filter nu := by
  rcases h with rfl | ⟨c, t, rfl, h⟩
  · rfl
  · rw [filter_keep c t h]; rfl
theorem clean_of_hd (p : UInt8 → Bool) (l : List UInt8) (hp : p 95 = false) (h : hd p l = true) : Clean l := by
  cases l with
  | nil => exact .inl rfl
  | cons c t =>
    refine .inr ⟨c, t, rfl, ?_⟩
    unfold nu
    by_cases e : c = 95
    · subst e; rw [show hd p (95 :: t) = p 95 from rfl, hp] at h; cases h
    · simp [e]

theorem isSign_95 : isSign 95 = false := rfl
theorem dig_not_sign (c : UInt8) (h : dig c = true) : isSign c = false := by
  unfold dig at h; unfold isSign
  simp at h ⊢
  refine ⟨?_, ?_⟩ <;> (intro e; subst e; simp at h)

theorem unsign_strip (l r : List UInt8) (h : dd (unsign l) = some r) : unsign (l.filter nu) = (unsign l).filter nu := by
  by_cases hs : hd isSign l = true
  · have hc := clean_of_hd isSign l isSign_95 hs
    unfold unsign
    rw [hd_strip isSign l hc, if_pos hs, if_pos hs, tail_strip l hc]
  · have e : unsign l = l := by unfold unsign; rw [if_neg hs]
    rw [e] at h ⊢
    obtain ⟨⟨c, t, rfl, hd0⟩, _⟩ := dd_strip l r h
    have hc : Clean (c :: t) := .inr ⟨c, t, rfl, nu_of_dig c hd0⟩
    unfold unsign
    rw [hd_strip isSign _ hc, if_neg hs]

theorem clean_rest (r : List UInt8) (h : r = [] ∨ ∃ c t, r = c :: t ∧ nu c = true ∧ dig c = false) : Clean r := by
  rcases h with h | ⟨c, t, h, h1, _⟩
  · exact .inl h
  · exact .inr ⟨c, t, h, h1⟩

theorem stage3_strip (f : Bool) (l : List UInt8) (hc : Clean l) (h : stage3 f l = true) : stage3 f (l.filter nu) = true := by
  unfold stage3 at h ⊢
  rw [hd_strip isE l hc]
  split
  · rename_i he
    rw [if_pos he] at h
    rw [tail_strip l hc]
    cases hd0 : dd (unsign l.tail) with
    | none => rw [hd0] at h; cases h
    | some r =>
      rw [hd0] at h
      obtain ⟨_, h1, _⟩ := dd_strip _ _ hd0
      rw [unsign_strip _ _ hd0, h1]
      have hr : r = [] := by simpa using h
      subst hr
      rfl
  · rename_i he
    rw [if_neg he] at h
    simp at h ⊢
    obtain ⟨h1, h2⟩ := h
    subst h1
    exact ⟨by simp, h2⟩

theorem stage2_strip (l : List UInt8) (hc : Clean l) (h : stage2 l = true) : stage2 (l.filter nu) = true := by
  unfold stage2 at h ⊢
  rw [hd_strip _ l hc]
  split
  · rename_i he
    rw [if_pos he] at h
    rw [tail_strip l hc]
    cases hd0 : dd l.tail with
    | none => rw [hd0] at h; cases h
    | some r =>
      rw [hd0] at h
      obtain ⟨_, h1, h2⟩ := dd_strip _ _ hd0
      rw [h1]
      exact stage3_strip true r (clean_rest r h2) h
  · rename_i he
    rw [if_neg he] at h
    exact stage3_strip false l hc h

theorem stage1_strip (l : List UInt8) (h : stage1 l = true) : stage1 (l.filter nu) = true := by
  unfold stage1 at h ⊢
  cases hd0 : dd l with
  | none => rw [hd0] at h; cases h
  | some r =>
    rw [hd0] at h
    obtain ⟨⟨c, t, rfl, hdc⟩, h1, h2⟩ := dd_strip _ _ hd0
    have hc : Clean (c :: t) := .inr ⟨c, t, rfl, nu_of_dig c hdc⟩
    rw [h1]
    simp only at h ⊢
    split at h
    · cases h
    · rename_i hn
      rw [if_neg]
      · exact stage2_strip r (clean_rest r h2) h
      · rw [hd_strip _ _ hc]
        intro hx
        simp only [Bool.and_eq_true, decide_eq_true_eq] at hx hn
        obtain ⟨hx1, hx2⟩ := hx
        have hl : ¬ (r.length + 1 < (c :: t).length) := fun q => hn ⟨hx1, q⟩
        have hlt := dd_len _ _ hd0
        obtain ⟨p, hp⟩ := dd_suffix _ _ hd0
        have hpl : p.length = 1 := by
          have := congrArg List.length hp
          simp at this hl hlt
          omega
        match p, hpl with
        | [x], _ =>
          simp at hp
          obtain ⟨rfl, rfl⟩ := hp
          rw [filter_keep c t (nu_of_dig c hdc)] at hx2
          simp at hx2

theorem unsign_clean (l : List UInt8) (h : fl l = true) : unsign (l.filter nu) = (unsign l).filter nu := by
  unfold fl stage1 at h
  cases hd0 : dd (unsign l) with
  | none => rw [hd0] at h; cases h
  | some r => exact unsign_strip l r hd0

/-- THE LAW. -/
theorem fl_strip (l : List UInt8) (h : fl l = true) : fl (l.filter nu) = true := by
  have e := unsign_clean l h
  unfold fl at h ⊢
  rw [e]
  exact stage1_strip _ h

end Go.Proofs.Qxb6000618a.Plain
