/-
  THE DECODER whole: node by induction on the tokens left; zzDecode; zzClone.
-/
import Derived.Test.Qxb6001165aNodeC
namespace Go.Proofs.Qxb6001165a
open Go.RowKit

theorem node_all (D : Nat) (T : Value) (tl : Nat) (hl : tl ≤ 65536) : ∀ (n pos : Nat) (live : Bool) (w : World), tl - pos ≤ n → pos ≤ tl → DecAt w D T pos → Toks w D T tl →
    Calls Try.prog 27 #[.pointer (some ⟨D, 0, none⟩), .bool live] w fun e w' => NodeEnd w D T tl pos e w'
  | n, pos, live, w, hn, hp, hd, ht => by
    by_cases he : pos = tl
    · exact node_end D T tl pos live w hd ht hl he
    · have hlt : pos < tl := by omega
      match n, hn with
      | 0, hn => omega
      | n + 1, hn =>
        have ih : Later D T tl pos := fun p lv W h1 h2 h3 h4 => node_all D T tl hl n p lv W (by omega) h2 h3 h4
        rcases ht with ⟨_, e⟩ | ⟨tb, hT, hb, hc⟩
        · omega
        · obtain ⟨c, c1, c2⟩ := hc pos hlt
          have ht : Toks w D T tl := .inr ⟨tb, hT, hb, hc⟩
          have hk : c % 12 = 0 ∨ c % 12 = 1 ∨ c % 12 = 2 ∨ c % 12 = 3 ∨ c % 12 = 4 ∨ c % 12 = 5 ∨ c % 12 = 6 ∨ c % 12 = 7 ∨ c % 12 = 8 ∨ c % 12 = 9 ∨ c % 12 = 10 ∨ c % 12 = 11 := by omega
          rcases hk with h | h | h | h | h | h | h | h | h | h | h | h
          · exact node_plain D T tl pos live w hd ht hl hlt tb c hT c2 c1 0 (by omega) (by omega)
          · exact node_set D T tl pos live w hd ht hl hlt tb c hT c2 c1 h
          · exact node_concat D T tl pos live w hd ht hl hlt tb c hT c2 c1 ih h
          · exact node_alt D T tl pos live w hd ht hl hlt tb c hT c2 c1 ih h
          · exact node_repeat D T tl pos live w hd ht hl hlt tb c hT c2 c1 ih h
          · exact node_group D T tl pos live w hd ht hl hlt tb c hT c2 c1 ih h
          · exact node_look D T tl pos live w hd ht hl hlt tb c hT c2 c1 ih h
          · exact node_back D T tl pos live w hd ht hl hlt tb c hT c2 c1 h
          · exact node_start D T tl pos live w hd ht hl hlt tb c hT c2 c1 h
          · exact node_plain D T tl pos live w hd ht hl hlt tb c hT c2 c1 9 (by omega) (by omega)
          · exact node_plain D T tl pos live w hd ht hl hlt tb c hT c2 c1 10 (by omega) (by omega)
          · exact node_plain D T tl pos live w hd ht hl hlt tb c hT c2 c1 11 (by omega) (by omega)

theorem toks_below {w w' : World} {T : Value} {tl : Nat} (h : Toks w w.heap.size T tl) (hb : Below w.heap.size w w') {D : Nat} (hD : w.heap.size ≤ D) : Toks w' D T tl := by
  rcases h with h | ⟨tb, e, h1, hc⟩
  · exact .inl h
  · refine .inr ⟨tb, e, by omega, fun i hi => ?_⟩
    obtain ⟨c, c1, c2⟩ := hc i hi
    exact ⟨c, c1, (hb.cell (p := ⟨tb, i, none⟩) h1).trans c2⟩

/-- What zzDecode leaves. -/
def DecodeEnd (w : World) (tl : Nat) (e : Ending) (w' : World) : Prop :=
  ∃ (a k : Nat) (b : Bool) (v : Nat → Nat), e = .returned (.tuple #[.pointer (some ⟨a, 0, none⟩), .pointer (some ⟨w.heap.size, 0, none⟩)]) ∧ Nd k w' w.heap.size a b v ∧ wt v ≤ 10 * tl ∧ Below w.heap.size w w'

set_option maxRecDepth 4000 in
theorem decode_any (ao : Option Addr) (tl : Nat) (w : World) (hl : tl ≤ 65536) (ht : Toks w w.heap.size (.slice ao tl tl) tl) :
    Calls Try.prog 12 #[.slice ao tl tl] w fun e w' => DecodeEnd w tl e w' := by
  have HT : Hid (Toks w w.heap.size (.slice ao tl tl) tl) := ht
  clear ht
  go_enter Try.func12, Try.ntmps12
  go_wp2_with fail
  refine (node_all w.heap.size (.slice ao tl tl) tl hl tl 0 true _ (by omega) (by omega) ⟨0, 0, 0, 0, 0, 0, heap_top w _⟩ (toks_below HT.out ((Below.refl _ _).alloc (Nat.le_refl _) _) (Nat.le_refl _))).mono ?_
  rintro e w1 ⟨a, k, b, v, p, rfl, hnd, hdec, p1, p2, hwt, hg1⟩
  go_wp2
  go_ret2
  have hsz : w.heap.size ≤ (w.alloc (.cells #[.slice ao tl tl, .int .i64 0, .int .i64 0, .int .i64 0, .int .i64 0, .int .i64 0, .int .i64 0, .int .i64 0] 30)).heap.size := by show w.heap.size ≤ (w.heap.push _).size; simp
  exact ⟨a, k, b, v, rfl, hnd.base hsz, by omega, ((Below.refl _ _).alloc (Nat.le_refl _) _).grown hg1 hsz (fun k h => by cases h; exact Nat.le_refl _)⟩
end Go.Proofs.Qxb6001165a
