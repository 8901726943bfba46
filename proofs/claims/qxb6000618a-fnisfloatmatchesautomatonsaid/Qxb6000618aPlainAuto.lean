/-
  THE PLAIN AUTOMATON of the law FnIsFloatMatchesAutomaton. No Go in sight.
-/
import Derived.Test.Qxb6000618aPlain
namespace Go.Proofs.Qxb6000618a.Plain

/-- One astep: none: the automaton refuses. -/
def astep (st : Nat) (c : UInt8) : Option Nat :=
  match st with
  | 0 => if isSign c then some 1 else if c == 48 then some 2 else if dig c then some 3 else none
  | 1 => if c == 48 then some 2 else if dig c then some 3 else none
  | 2 => if c == 46 then some 5 else if isE c then some 8 else none
  | 3 => if dig c then some 3 else if c == 95 then some 4 else if c == 46 then some 5 else if isE c then some 8 else none
  | 4 => if dig c then some 3 else none
  | 5 => if dig c then some 6 else none
  | 6 => if dig c then some 6 else if c == 95 then some 7 else if isE c then some 8 else none
  | 7 => if dig c then some 6 else none
  | 8 => if isSign c then some 9 else if dig c then some 10 else none
  | 9 => if dig c then some 10 else none
  | 10 => if dig c then some 10 else if c == 95 then some 11 else none
  | _ => if dig c then some 10 else none

def arun (st : Nat) : List UInt8 → Bool
  | [] => st == 6 || st == 10
  | c :: r =>
    match astep st c with
    | none => false
    | some st' => arun st' r

theorem arun_none (st : Nat) (c : UInt8) (r : List UInt8) (h : astep st c = none) : arun st (c :: r) = false := by simp [arun, h]
theorem arun_some (st st' : Nat) (c : UInt8) (r : List UInt8) (h : astep st c = some st') : arun st (c :: r) = arun st' r := by simp [arun, h]
end Go.Proofs.Qxb6000618a.Plain
namespace Go.Proofs.Qxb6000618a.Plain

/-- A run of digits and underscores, D the digits' state, U the underscore's. -/
theorem arun_digits (D U : Nat) (hD : ∀ c, dig c = true → astep D c = some D) (h95 : ∀ c : UInt8, c.toNat = 95 → astep D c = some U)
    (hU : ∀ c, astep U c = if dig c then some D else none) (hUe : arun U [] = false) :
    ∀ l, arun D l = match ddl l with | none => false | some r => arun D r
  | [] => rfl
  | c :: l => by
    by_cases hd0 : dig c = true
    · rw [ddl_dig c l hd0, arun_some _ _ _ _ (hD c hd0)]
      exact arun_digits D U hD h95 hU hUe l
    · have hd1 : dig c = false := by simpa using hd0
      by_cases hc : c.toNat = 95
      · rw [arun_some _ _ _ _ (h95 c hc)]
        by_cases hh : hd dig l = true
        · rw [ddl_us c l hc hh, ← arun_digits D U hD h95 hU hUe l]
          cases l with
          | nil => cases hh
          | cons d t =>
            have hdd : dig d = true := hh
            rw [arun_some U D d t (by rw [hU, if_pos hdd]), arun_some D D d t (hD d hdd)]
        · rw [ddl_us_no c l hc (by simpa using hh)]
          cases l with
          | nil => exact hUe
          | cons d t =>
            have hdd : ¬ dig d = true := hh
            exact arun_none U d t (by rw [hU, if_neg hdd])
      · rw [ddl_other c l hd1 hc]

theorem s95 (c : UInt8) (h : c.toNat = 95) : c = 95 := UInt8.toNat_inj.1 h
theorem dig_ne (c d : UInt8) (h : dig c = true) (hd0 : dig d = false) : (c == d) = false := by
  simp; intro e; subst e; rw [h] at hd0; cases hd0
theorem dig_not_e (c : UInt8) (h : dig c = true) : isE c = false := by
  unfold isE; rw [dig_ne c 101 h rfl, dig_ne c 69 h rfl]; rfl

theorem arun10 (l : List UInt8) : arun 10 l = match ddl l with | none => false | some r => arun 10 r :=
  arun_digits 10 11 (fun c h => by simp [astep, h]) (fun c h => by rw [s95 c h]; rfl) (fun _ => rfl) rfl l
theorem arun6 (l : List UInt8) : arun 6 l = match ddl l with | none => false | some r => arun 6 r :=
  arun_digits 6 7 (fun c h => by simp [astep, h]) (fun c h => by rw [s95 c h]; rfl) (fun _ => rfl) rfl l
theorem arun3 (l : List UInt8) : arun 3 l = match ddl l with | none => false | some r => arun 3 r :=
  arun_digits 3 4 (fun c h => by simp [astep, h]) (fun c h => by rw [s95 c h]; rfl) (fun _ => rfl) rfl l

/-- What ddl leaves: nothing, or a byte that is neither digit nor underscore. -/
def Rest (r : List UInt8) : Prop := r = [] ∨ ∃ c t, r = c :: t ∧ dig c = false ∧ ¬ c.toNat = 95
theorem ddl_rest : ∀ (l r : List UInt8), ddl l = some r → Rest r
  | [], r, h => by simp [ddl] at h; subst h; exact .inl rfl
  | c :: l, r, h => by
    by_cases hd0 : dig c = true
    · rw [ddl_dig c l hd0] at h; exact ddl_rest l r h
    · have hd1 : dig c = false := by simpa using hd0
      by_cases hc : c.toNat = 95
      · by_cases hh : hd dig l = true
        · rw [ddl_us c l hc hh] at h; exact ddl_rest l r h
        · rw [ddl_us_no c l hc (by simpa using hh)] at h; simp at h
      · rw [ddl_other c l hd1 hc] at h
        simp at h; subst h
        exact .inr ⟨c, l, rfl, hd1, hc⟩

theorem ne95_of (c : UInt8) (h : ¬ c.toNat = 95) : (c == 95) = false := by simp; intro e; subst e; exact h rfl

theorem rest10 (r : List UInt8) (h : Rest r) : arun 10 r = r.isEmpty := by
  rcases h with rfl | ⟨c, t, rfl, h1, h2⟩
  · rfl
  · exact arun_none _ _ _ (by simp [astep, h1, ne95_of c h2])

/-- 'A digit, then more': the states 5 and 9. -/
theorem arun_first (S D : Nat) (hS : ∀ c, astep S c = if dig c then some D else none) (hSe : arun S [] = false) (hD : ∀ l, arun D l = match ddl l with | none => false | some r => arun D r) (l : List UInt8) :
    arun S l = match dd l with | none => false | some r => arun D r := by
  cases l with
  | nil => exact hSe
  | cons c l =>
    by_cases hd0 : dig c = true
    · rw [arun_some S D c l (by rw [hS, if_pos hd0]), hD l]
      simp only [dd, hd0, if_true]
    · rw [arun_none S c l (by rw [hS, if_neg hd0])]
      simp [dd, hd0]

theorem dd_rest (l r : List UInt8) (h : dd l = some r) : Rest r := by
  cases l with
  | nil => simp [dd] at h
  | cons c l =>
    simp only [dd] at h
    split at h
    · exact ddl_rest l r h
    · simp at h

theorem arun_exp (l : List UInt8) (S : Nat) (hS : ∀ c, astep S c = if dig c then some 10 else none) (hSe : arun S [] = false) : arun S l = match dd l with | none => false | some r => r.isEmpty := by
  rw [arun_first S 10 hS hSe arun10 l]
  cases h : dd l with
  | none => rfl
  | some r => exact rest10 r (dd_rest l r h)

theorem arun8 (l : List UInt8) : arun 8 l = match dd (unsign l) with | none => false | some r => r.isEmpty := by
  by_cases hs : hd isSign l = true
  · cases l with
    | nil => cases hs
    | cons c t =>
      have hc : isSign c = true := hs
      rw [arun_some 8 9 c t (by simp [astep, hc])]
      have e : unsign (c :: t) = t := by unfold unsign; rw [if_pos hs]; rfl
      rw [e]
      exact arun_exp t 9 (fun _ => rfl) rfl
  · have e : unsign l = l := by unfold unsign; rw [if_neg hs]
    rw [e]
    cases l with
    | nil => rfl
    | cons c t =>
      have hc : isSign c = false := by simpa [hd] using hs
      rw [← arun_exp (c :: t) 9 (fun _ => rfl) rfl]
      have : astep 8 c = astep 9 c := by simp [astep, hc]
      simp only [arun, this]

theorem rest6 (r : List UInt8) (h : Rest r) : arun 6 r = stage3 true r := by
  rcases h with rfl | ⟨c, t, rfl, h1, h2⟩
  · rfl
  · unfold stage3
    by_cases he : isE c = true
    · rw [arun_some 6 8 c t (by simp [astep, h1, ne95_of c h2, he]), if_pos (show hd isE (c :: t) = true from he), arun8]
      rfl
    · have he' : isE c = false := by simpa using he
      rw [arun_none 6 c t (by simp [astep, h1, ne95_of c h2, he']), if_neg (show ¬ hd isE (c :: t) = true from he)]
      rfl

theorem arun5 (l : List UInt8) : arun 5 l = match dd l with | none => false | some r => stage3 true r := by
  rw [arun_first 5 6 (fun _ => rfl) rfl arun6 l]
  cases h : dd l with
  | none => rfl
  | some r => exact rest6 r (dd_rest l r h)

/-- The state 2, at every list. -/
theorem arun2 (l : List UInt8) : arun 2 l = stage2 l := by
  cases l with
  | nil => rfl
  | cons c t =>
    unfold stage2 stage3
    by_cases h46 : (c == 46) = true
    · rw [arun_some 2 5 c t (by simp [astep, h46]), if_pos (show hd (fun c => c == 46) (c :: t) = true from h46), arun5]
      rfl
    · have h46' : (c == 46) = false := by simpa using h46
      rw [if_neg (show ¬ hd (fun c => c == 46) (c :: t) = true from h46)]
      by_cases he : isE c = true
      · rw [arun_some 2 8 c t (by simp [astep, h46', he]), if_pos (show hd isE (c :: t) = true from he), arun8]
        rfl
      · have he' : isE c = false := by simpa using he
        rw [arun_none 2 c t (by simp [astep, h46', he']), if_neg (show ¬ hd isE (c :: t) = true from he)]
        rfl

theorem rest3 (r : List UInt8) (h : Rest r) : arun 3 r = stage2 r := by
  rw [← arun2]
  rcases h with rfl | ⟨c, t, rfl, h1, h2⟩
  · rfl
  · have : astep 3 c = astep 2 c := by simp [astep, h1, ne95_of c h2]
    simp only [arun, this]

/-- No fraction and no exponent stands behind a digit or an underscore. -/
theorem stage2_none_of (c : UInt8) (t : List UInt8) (h : dig c = true ∨ c.toNat = 95) : stage2 (c :: t) = false := by
  rw [← arun2]
  refine arun_none _ _ _ ?_
  rcases h with h | h
  · have h46 : (c == 46) = false := dig_ne c 46 h rfl
    simp [astep, h46, dig_not_e c h]
  · rw [s95 c h]; rfl

theorem stage1_zero (t : List UInt8) : stage1 (48 :: t) = stage2 t := by
  have e : dd (48 :: t) = ddl t := rfl
  unfold stage1
  rw [e]
  cases t with
  | nil => rfl
  | cons c t =>
    by_cases hd0 : dig c = true
    · rw [stage2_none_of c t (.inl hd0), ddl_dig c t hd0]
      cases h : ddl t with
      | none => rfl
      | some r =>
        have hl := ddl_len t r h
        simp only
        rw [if_pos]
        simp [hd]; omega
    · have hd1 : dig c = false := by simpa using hd0
      by_cases hc : c.toNat = 95
      · rw [stage2_none_of c t (.inr hc)]
        by_cases hh : hd dig t = true
        · rw [ddl_us c t hc hh]
          cases h : ddl t with
          | none => rfl
          | some r =>
            have hl := ddl_len t r h
            simp only
            rw [if_pos]
            simp [hd]; omega
        · rw [ddl_us_no c t hc (by simpa using hh)]
      · rw [ddl_other c t hd1 hc]
        simp only
        rw [if_neg]
        simp

theorem arun1 (l : List UInt8) : arun 1 l = stage1 l := by
  cases l with
  | nil => rfl
  | cons c t =>
    by_cases h48 : (c == 48) = true
    · have : c = 48 := by simpa using h48
      subst this
      rw [stage1_zero, ← arun2]
      rfl
    · have h48' : (c == 48) = false := by simpa using h48
      unfold stage1
      by_cases hd0 : dig c = true
      · rw [arun_some 1 3 c t (by simp [astep, h48', hd0]), arun3]
        simp only [dd, hd0, if_true]
        cases h : ddl t with
        | none => rfl
        | some r =>
          simp only
          rw [if_neg, rest3 r (ddl_rest t r h)]
          simp [hd, h48']
      · have hd1 : dig c = false := by simpa using hd0
        rw [arun_none 1 c t (by simp [astep, h48', hd1])]
        simp [dd, hd1]

/-- THE LAW: the automaton accepts what isFloat accepts. -/
theorem arun_fl (l : List UInt8) : arun 0 l = fl l := by
  unfold fl
  rw [← arun1]
  cases l with
  | nil => rfl
  | cons c t =>
    by_cases hs : isSign c = true
    · rw [arun_some 0 1 c t (by simp [astep, hs])]
      have e : unsign (c :: t) = t := by unfold unsign; rw [if_pos (show hd isSign (c :: t) = true from hs)]; rfl
      rw [e]
    · have hs' : isSign c = false := by simpa using hs
      have e : unsign (c :: t) = c :: t := by unfold unsign; rw [if_neg (show ¬ hd isSign (c :: t) = true from hs)]
      have : astep 0 c = astep 1 c := by simp [astep, hs']
      rw [e]
      simp only [arun, this]

end Go.Proofs.Qxb6000618a.Plain
