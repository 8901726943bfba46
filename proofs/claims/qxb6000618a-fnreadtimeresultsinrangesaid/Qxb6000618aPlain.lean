/-
  THE PLAIN FUNCTIONS of the float family (isFloat, decimalDigits), over lists of bytes: no Go in sight.
-/
namespace Go.Proofs.Qxb6000618a.Plain

/-- Is the byte a decimal digit? -/
def dig (c : UInt8) : Bool := 48 ≤ c.toNat && c.toNat ≤ 57

/-- Does the list open with a byte that meets p? -/
def hd (p : UInt8 → Bool) : List UInt8 → Bool
  | [] => false
  | c :: _ => p c

/-- What is left behind further digits (the loop of decimalDigits); none: refused. -/
def ddl : List UInt8 → Option (List UInt8)
  | [] => some []
  | c :: r => if dig c then ddl r else if c.toNat = 95 then (if hd dig r then ddl r else none) else some (c :: r)

/-- decimalDigits: what is left behind the digits; none: refused. -/
def dd : List UInt8 → Option (List UInt8)
  | [] => none
  | c :: r => if dig c then ddl r else none

/-- decimalDigits, as Go answers: an offset, or -1. -/
def ddI (s : List UInt8) (i : Nat) : Int :=
  match dd (s.drop i) with
  | none => -1
  | some r => (s.length : Int) - r.length

theorem ddl_len : ∀ (l r : List UInt8), ddl l = some r → r.length ≤ l.length
  | [], r, h => by simp [ddl] at h; subst h; simp
  | c :: l, r, h => by
    unfold ddl at h
    split at h
    · have := ddl_len l r h; simp; omega
    · split at h
      · split at h
        · have := ddl_len l r h; simp; omega
        · simp at h
      · simp at h; subst h; simp

theorem dd_len (l r : List UInt8) (h : dd l = some r) : r.length < l.length := by
  cases l with
  | nil => simp [dd] at h
  | cons c l =>
    simp only [dd] at h
    split at h
    · have := ddl_len l r h; simp; omega
    · simp at h

/-- What is left is an end of the text. -/
theorem ddl_suffix : ∀ (l r : List UInt8), ddl l = some r → ∃ p, l = p ++ r
  | [], r, h => by simp [ddl] at h; subst h; exact ⟨[], rfl⟩
  | c :: l, r, h => by
    unfold ddl at h
    split at h
    · obtain ⟨p, hp⟩ := ddl_suffix l r h; exact ⟨c :: p, by rw [hp]; rfl⟩
    · split at h
      · split at h
        · obtain ⟨p, hp⟩ := ddl_suffix l r h; exact ⟨c :: p, by rw [hp]; rfl⟩
        · simp at h
      · simp at h; subst h; exact ⟨[], rfl⟩

theorem dd_suffix (l r : List UInt8) (h : dd l = some r) : ∃ p, l = p ++ r := by
  cases l with
  | nil => simp [dd] at h
  | cons c l =>
    simp only [dd] at h
    split at h
    · obtain ⟨p, hp⟩ := ddl_suffix l r h; exact ⟨c :: p, by rw [hp]; rfl⟩
    · simp at h

/-- The loop of decimalDigits at offset k, as Go answers. -/
def ddlI (s : List UInt8) (k : Nat) : Int :=
  match ddl (s.drop k) with
  | none => -1
  | some r => (s.length : Int) - r.length

theorem ddlI_none (s : List UInt8) (k : Nat) (h : ddl (s.drop k) = none) : ddlI s k = -1 := by unfold ddlI; rw [h]
theorem ddlI_some (s : List UInt8) (k : Nat) (r : List UInt8) (h : ddl (s.drop k) = some r) : ddlI s k = (s.length : Int) - r.length := by unfold ddlI; rw [h]
theorem ddlI_same (s : List UInt8) (k m : Nat) (h : ddl (s.drop k) = ddl (s.drop m)) : ddlI s k = ddlI s m := by unfold ddlI; rw [h]
theorem ddI_none (s : List UInt8) (k : Nat) (h : dd (s.drop k) = none) : ddI s k = -1 := by unfold ddI; rw [h]
theorem ddI_some (s : List UInt8) (k : Nat) (r : List UInt8) (h : dd (s.drop k) = some r) : ddI s k = (s.length : Int) - r.length := by unfold ddI; rw [h]

theorem ddl_dig (c : UInt8) (r : List UInt8) (h : dig c = true) : ddl (c :: r) = ddl r := by simp [ddl, h]
theorem dig_95 (c : UInt8) (h : c.toNat = 95) : dig c = false := by unfold dig; simp [h]
theorem ddl_us (c : UInt8) (r : List UInt8) (h : c.toNat = 95) (h2 : hd dig r = true) : ddl (c :: r) = ddl r := by simp [ddl, dig_95 c h, h, h2]
theorem ddl_us_no (c : UInt8) (r : List UInt8) (h : c.toNat = 95) (h2 : hd dig r = false) : ddl (c :: r) = none := by simp [ddl, dig_95 c h, h, h2]
theorem ddl_other (c : UInt8) (r : List UInt8) (h : dig c = false) (h2 : ¬ c.toNat = 95) : ddl (c :: r) = some (c :: r) := by simp [ddl, h, h2]

/-- A sign at the head is passed over. -/
def isSign (c : UInt8) : Bool := c == 43 || c == 45
def unsign (l : List UInt8) : List UInt8 := if hd isSign l then l.tail else l
def isE (c : UInt8) : Bool := c == 101 || c == 69

/-- isFloat behind the fraction: 'f': was there one? -/
def stage3 (f : Bool) (l : List UInt8) : Bool :=
  if hd isE l then
    match dd (unsign l.tail) with
    | none => false
    | some r => r.isEmpty
  else l.isEmpty && f

/-- isFloat behind the whole part. -/
def stage2 (l : List UInt8) : Bool :=
  if hd (fun c => c == 46) l then
    match dd l.tail with
    | none => false
    | some r => stage3 true r
  else stage3 false l

/-- isFloat behind the sign. -/
def stage1 (l : List UInt8) : Bool :=
  match dd l with
  | none => false
  | some r => if hd (fun c => c == 48) l && decide (r.length + 1 < l.length) then false else stage2 r

def fl (l : List UInt8) : Bool := stage1 (unsign l)

/-! ### The index that decimalDigits answers, and the list that is left. -/
theorem drop_of_suffix (l p r : List UInt8) (k : Nat) (h : l.drop k = p ++ r) : l.drop (l.length - r.length) = r := by
  have hl : (l.drop k).length = p.length + r.length := by rw [h]; simp
  by_cases hr : r = []
  · subst hr; simp
  · have hp : 0 < r.length := List.length_pos_iff.2 hr
    simp at hl
    have e : l.length - r.length = k + p.length := by omega
    rw [e, ← List.drop_drop, h]; simp

theorem dd_drop (l r : List UInt8) (k : Nat) (h : dd (l.drop k) = some r) : l.drop (l.length - r.length) = r := by
  obtain ⟨p, hp⟩ := dd_suffix _ _ h
  exact drop_of_suffix l p r k hp

/-- decimalDigits' answer: refused, or an offset m whose list is what is left. -/
theorem ddI_cases (l : List UInt8) (k : Nat) : (dd (l.drop k) = none ∧ ddI l k = -1) ∨ ∃ m : Nat, k < m ∧ m ≤ l.length ∧ ddI l k = m ∧ dd (l.drop k) = some (l.drop m) := by
  cases h : dd (l.drop k) with
  | none => exact .inl ⟨rfl, ddI_none l k h⟩
  | some r =>
    refine .inr ⟨l.length - r.length, ?_, by omega, ?_, ?_⟩
    · have := dd_len _ _ h; simp at this; omega
    · rw [ddI_some l k r h]; have := dd_len _ _ h; simp at this; omega
    · rw [dd_drop l r k h]

end Go.Proofs.Qxb6000618a.Plain
