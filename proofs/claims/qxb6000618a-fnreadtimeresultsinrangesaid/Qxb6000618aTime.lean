/-
  THE WALKS of zzTwo and readDigits.
-/
import Derived.Test.Qxb6000618aStrip
import Derived.Test.Qxb6000618aPlainTime
namespace Go.Proofs.Qxb6000618a
open Go.RowKit Plain

theorem two_cells (n : Int) (h0 : 0 ≤ n) (h1 : n ≤ 99) (w : World) :
    (convert 32 9 (.slice (some ⟨w.heap.size, 0, none⟩) 2 2)).run Try.prog (w.alloc (.cells #[.int .u8 (48 + n / 10), .int .u8 (48 + n % 10)] 5)) =
      .ok (.string ⟨(two n).toArray⟩) (w.alloc (.cells #[.int .u8 (48 + n / 10), .int .u8 (48 + n % 10)] 5)) := by
  refine run_convert_bytes_back (P := Try.prog) _ 32 9 5 ⟨w.heap.size, 0, none⟩ 2 (two n) Try.underlying32 Try.underlying5 Try.underlying9 ?_
  intro j hj
  have e1 : (((UInt8.ofNat (48 + n / 10).toNat).toNat : Nat) : Int) = 48 + n / 10 := by simp; omega
  have e2 : (((UInt8.ofNat (48 + n % 10).toNat).toNat : Nat) : Int) = 48 + n % 10 := by simp; omega
  match j, hj with
  | 0, _ =>
    show (w.alloc _).cell? ⟨w.heap.size, 0 + 0, none⟩ = some (.int .u8 (((UInt8.ofNat (48 + n / 10).toNat).toNat : Nat) : Int))
    rw [e1, World.cell?_alloc_at _ _ _ _ rfl]; rfl
  | 1, _ =>
    show (w.alloc _).cell? ⟨w.heap.size, 0 + 1, none⟩ = some (.int .u8 (((UInt8.ofNat (48 + n % 10).toNat).toNat : Nat) : Int))
    rw [e2, World.cell?_alloc_at _ _ _ _ rfl]; rfl

set_option maxRecDepth 4000 in
set_option maxHeartbeats 400000 in
theorem two_any (n : Int) (h0 : 0 ≤ n) (h1 : n ≤ 99) (w : World) : Calls Try.prog 21 #[.int .i64 n] w fun e w' => e = .returned (.string ⟨(two n).toArray⟩) ∧ w' = w.alloc (.cells #[.int .u8 (48 + n / 10), .int .u8 (48 + n % 10)] 5) := by
  have hcv := two_cells n h0 h1 w
  go_enter Try.func21, Try.ntmps21
  go_wp2
  go_ret
  exact ⟨rfl, rfl⟩

/-- '[]byte(s)': a new row that holds the bytes. -/
theorem conv_bytes (s : ByteArray) (w : World) : ∃ (W1 : World) (cap : Nat), (convert 9 32 (.string s)).run Try.prog w = .ok (.slice (some ⟨w.heap.size, 0, none⟩) s.size cap) W1 ∧
    (∀ j (h : j < s.size), W1.cell? ⟨w.heap.size, j, none⟩ = some (.int .u8 (s[j].toNat : Int))) ∧ Below w.heap.size w W1 := by
  refine ⟨_, _, run_bytes_of_string (P := Try.prog) w 9 32 5 s Try.underlying9 Try.underlying32 Try.underlying5, ?_, (Below.refl _ _).drew.alloc (Nat.le_refl _) _⟩
  intro j h
  have hh : ∀ O : Obj, (w.drew.alloc O).heap[w.heap.size]? = some O := fun O => by
    show (w.heap.push O)[w.heap.size]? = _
    simp
  simp only [World.cell?, hh, bytesRow]
  simp [Array.getElem?_append, h]
  rfl

def rdI (s : ByteArray) (i n : Nat) : Int := if s.size < i + n then -1 else rda 0 ((s.data.toList.drop i).take n)

theorem rd_bound (v : Int) (k : Nat) (hk : k < 9) (h : v < 10 ^ k) : v ≤ 99999999 := by
  have : (10 : Int) ^ k ≤ 10 ^ 8 := by
    have h2 : (10 : Nat) ^ k ≤ 10 ^ 8 := Nat.pow_le_pow_right (by omega) (by omega)
    exact_mod_cast h2
  have e : (10 : Int) ^ 8 = 100000000 := by decide
  omega
theorem rd_next (v : Int) (k : Nat) (c : UInt8) (hc : dig c = true) (h : v < 10 ^ k) : 10 * v + ((c.toNat : Int) - 48) < 10 ^ (k + 1) := by
  have hb := dig_bounds c hc
  rw [Int.pow_succ]
  omega

set_option maxRecDepth 4000 in
set_option maxHeartbeats 400000 in
theorem rd_any (s : ByteArray) (i n : Nat) (w : World) (hs : s.size ≤ 2000000) (hi : i ≤ 10) (hn : n ≤ 9) : Calls Try.prog 31 #[.string s, .int .i64 i, .int .i64 n] w fun e w' => e = .returned (.int .i64 (rdI s i n)) ∧ Below w.heap.size w w' := by
  by_cases hlt : s.size < i + n
  · go_enter Try.func31, Try.ntmps31
    go_wp2
    go_ret
    exact ⟨ret_int (by unfold rdI; rw [if_pos hlt]), Below.refl _ _⟩
  · have hlt' : ¬ ((s.size : Int) < (i : Int) + (n : Int)) := by omega
    obtain ⟨W1, cap, hcv, hcell, hb⟩ := conv_bytes (s.extract i (i + n)) w
    go_enter Try.func31, Try.ntmps31
    go_wp2
    have hsz : (s.extract i (i + n)).size = n := by simp; omega
    have hdat : (s.extract i (i + n)).data.toList = (s.data.toList.drop i).take n := by rw [Lib.extract_data]; congr 1; omega
    have HZ : Hid ((s.extract i (i + n)).size = n) := hsz
    have HD : Hid ((s.extract i (i + n)).data.toList = (s.data.toList.drop i).take n) := hdat
    clear hsz hdat
    generalize s.extract i (i + n) = t at *
    obtain rfl : t.size = n := HZ.out
    go_loop [7, 24] (fun sv sk => ∃ (k : Nat) (v : Int), k ≤ t.size ∧ sk = .int .i64 k ∧ sv = .int .i64 v ∧ 0 ≤ v ∧ Hid (v < 10 ^ k) ∧ Hid (rda 0 t.data.toList = rda v (t.data.toList.drop k))) (fun _ sk => t.size - (intOf sk).toNat)
    case atStart => exact ⟨0, 0, by omega, rfl, rfl, by omega, by show (0 : Int) < 10 ^ 0; decide, rfl⟩
    case round =>
      obtain ⟨k, v, hk, rfl, rfl, hv0, HV, HR⟩ := hrel
      by_cases hkn : k < t.size
      · have hck := hcell k hkn
        have hv9 := rd_bound v k (by omega) HV.out
        go_wp2_with (go_at_call 29; refine (isDigit_any _ _).mono ?_; rintro e w' ⟨rfl, rfl⟩)
        · have hd0 : dig t[k] = false := by simpa using ‹(!dig t[k]) = true›
          go_ret
          exact ⟨ret_int (by unfold rdI; rw [if_neg hlt, ← HD.out, HR.out, drop_cons t k hkn, rda_no _ _ _ hd0]), hb⟩
        · have hd0 : dig t[k] = true := by simpa using ‹(!dig t[k]) = false›
          have hbd := dig_bounds _ hd0
          have e1 : 10 * v + ((t[k].toNat : Int) - 48) % 256 = 10 * v + ((t[k].toNat : Int) - 48) := by omega
          go_round
          case rel => exact ⟨k + 1, 10 * v + ((t[k].toNat : Int) - 48), by omega, by go_num, by rw [e1], by omega, rd_next v k _ hd0 HV.out, by show _ = _; rw [HR.out, drop_cons t k hkn, rda_dig _ _ _ hd0]⟩
          case measure => simp [intOf]; omega
      · go_wp2
        go_ret
        exact ⟨ret_int (by unfold rdI; rw [if_neg hlt, ← HD.out, HR.out, drop_end t k (by omega)]; rfl), hb⟩

theorem rd_int (s : ByteArray) (i n : Int) (w : World) (hs : s.size ≤ 2000000) (hi0 : 0 ≤ i) (hi : i ≤ 10) (hn0 : 0 ≤ n) (hn : n ≤ 9) : Calls Try.prog 31 #[.string s, .int .i64 i, .int .i64 n] w fun e w' => e = .returned (.int .i64 (rdI s i.toNat n.toNat)) ∧ Below w.heap.size w w' := by
  obtain ⟨i, rfl⟩ := Int.eq_ofNat_of_zero_le hi0
  obtain ⟨n, rfl⟩ := Int.eq_ofNat_of_zero_le hn0
  exact rd_any s i n w hs (by omega) (by omega)
end Go.Proofs.Qxb6000618a
