/-
  THE TREES: what a node in memory is, and the contracts of the node makers.
-/
import Derived.Test.Qxb6001165aRows
import Derived.WalkKit
import Derived.WalkSpells
import Derived.RowKit3
import Derived.WalkSmall
import Derived.Deep.DeepCutAuto
import Derived.Deep.QuietTactic
import Derived.BigQuiet
import Derived.RegionTactic
namespace Go.Proofs.Qxb6001165a
open Go.RowKit

/-! ### The makers -/
abbrev SetObj (lo hi : Int) : Obj := .cells #[.int .i32 lo, .int .i32 hi] 65
abbrev NodeCells (kd : Int) (sv : Value) (sb : Nat) (mn mx : Int) (gr : Bool) (g gs : Int) (ng : Bool) : Array Value :=
  #[.int .u8 kd, sv, .slice (some ⟨sb, 0, none⟩) 1 1, .int .i64 mn, .int .i64 mx, .bool gr, .int .i64 g, .int .i64 gs, .bool false, .bool ng]

set_option maxRecDepth 4000 in
theorem make_any (kd : Int) (ao : Option Addr) (n cap : Nat) (lo hi mn mx : Int) (gr : Bool) (g gs : Int) (ng : Bool) (w : World) :
    Calls Try.prog 29 #[.int .u8 kd, .slice ao n cap, .int .i32 lo, .int .i32 hi, .int .i64 mn, .int .i64 mx, .bool gr, .int .i64 g, .int .i64 gs, .bool ng] w fun e w' =>
      e = .returned (.pointer (some ⟨w.heap.size + 1, 0, none⟩)) ∧ w' = (w.alloc (SetObj lo hi)).alloc (.cells (NodeCells kd (.slice ao n cap) w.heap.size mn mx gr g gs ng) 81) := by
  go_enter Try.func29, Try.ntmps29
  go_wp2
  go_ret
  exact ⟨rfl, rfl⟩

set_option maxRecDepth 4000 in
theorem leaf_any (kd : Int) (w : World) :
    Calls Try.prog 18 #[.int .u8 kd] w fun e w' => e = .returned (.pointer (some ⟨w.heap.size + 1, 0, none⟩)) ∧ w' = (w.alloc (SetObj 0 0)).alloc (.cells (NodeCells kd (.slice none 0 0) w.heap.size 0 0 false 0 0 false) 81) := by
  go_enter Try.func18, Try.ntmps18
  go_wp2_with (go_at_call 29; refine (make_any _ _ _ _ _ _ _ _ _ _ _ _ _).mono ?_; rintro e w' ⟨rfl, rfl⟩)
  go_ret
  exact ⟨rfl, rfl⟩

set_option maxRecDepth 4000 in
theorem wrap_any (kd : Int) (a : Nat) (w : World) :
    Calls Try.prog 17 #[.int .u8 kd, .pointer (some ⟨a, 0, none⟩)] w fun e w' => e = .returned (.pointer (some ⟨w.heap.size + 1 + 1, 0, none⟩)) ∧
      w' = ((w.alloc (.cells #[.pointer (some ⟨a, 0, none⟩)] 25)).alloc (SetObj 0 0)).alloc (.cells (NodeCells kd (.slice (some ⟨w.heap.size, 0, none⟩) 1 1) (w.heap.size + 1) 0 0 false 0 0 false) 81) := by
  go_enter Try.func17, Try.ntmps17
  go_wp2_with (go_at_call 29; refine (make_any _ _ _ _ _ _ _ _ _ _ _ _ _).mono ?_; rintro e w' ⟨rfl, rfl⟩)
  go_ret
  exact ⟨by simp, by simp⟩

set_option maxRecDepth 4000 in
theorem pair_any (kd : Int) (a b : Nat) (w : World) :
    Calls Try.prog 15 #[.int .u8 kd, .pointer (some ⟨a, 0, none⟩), .pointer (some ⟨b, 0, none⟩)] w fun e w' => e = .returned (.pointer (some ⟨w.heap.size + 1 + 1, 0, none⟩)) ∧
      w' = ((w.alloc (.cells #[.pointer (some ⟨a, 0, none⟩), .pointer (some ⟨b, 0, none⟩)] 25)).alloc (SetObj 0 0)).alloc (.cells (NodeCells kd (.slice (some ⟨w.heap.size, 0, none⟩) 2 2) (w.heap.size + 1) 0 0 false 0 0 false) 81) := by
  go_enter Try.func15, Try.ntmps15
  go_wp2_with (go_at_call 29; refine (make_any _ _ _ _ _ _ _ _ _ _ _ _ _).mono ?_; rintro e w' ⟨rfl, rfl⟩)
  go_ret
  exact ⟨by simp, by simp⟩

set_option maxRecDepth 4000 in
theorem triple_any (kd : Int) (a b c : Nat) (w : World) :
    Calls Try.prog 19 #[.int .u8 kd, .pointer (some ⟨a, 0, none⟩), .pointer (some ⟨b, 0, none⟩), .pointer (some ⟨c, 0, none⟩)] w fun e w' => e = .returned (.pointer (some ⟨w.heap.size + 1 + 1, 0, none⟩)) ∧
      w' = ((w.alloc (.cells #[.pointer (some ⟨a, 0, none⟩), .pointer (some ⟨b, 0, none⟩), .pointer (some ⟨c, 0, none⟩)] 25)).alloc (SetObj 0 0)).alloc (.cells (NodeCells kd (.slice (some ⟨w.heap.size, 0, none⟩) 3 3) (w.heap.size + 1) 0 0 false 0 0 false) 81) := by
  go_enter Try.func19, Try.ntmps19
  go_wp2_with (go_at_call 29; refine (make_any _ _ _ _ _ _ _ _ _ _ _ _ _).mono ?_; rintro e w' ⟨rfl, rfl⟩)
  go_ret
  exact ⟨by simp, by simp⟩

/-! ### What a node is -/
def vz : Nat → Nat := fun _ => 0
def ve (o : Nat) : Nat → Nat := fun i => if i = o then 1 else 0
def vadd (u v : Nat → Nat) : Nat → Nat := fun i => u i + v i
def vsum : List (Nat → Nat) → Nat → Nat
  | [] => vz
  | v :: r => vadd v (vsum r)
def wt (v : Nat → Nat) : Nat := v 0 + v 1 + v 2 + v 3 + v 4 + v 5 + v 6 + v 7 + v 8 + v 9 + v 10 + v 11 + v 12 + v 13 + v 14

def anchOf (kd : Int) (bs : List Bool) : Bool :=
  if kd = 8 then true else if kd = 2 ∨ kd = 5 then bs.headD false else if kd = 3 then bs.all id else false
def vecOf (kd mx : Int) (vs : List (Nat → Nat)) : Nat → Nat :=
  if kd = 0 then vz else if kd = 1 then ve 0 else if kd = 2 then vsum vs else if kd = 3 then vadd (vsum vs) (fun i => (vs.length - 1) * (ve 1 i + ve 2 i))
  else if kd = 4 then (if mx = 0 then vz else vadd (vsum vs) (vadd (ve 8) (vadd (ve 9) (vadd (ve 10) (vadd (ve 11) (ve 13))))))
  else if kd = 5 then vadd (vsum vs) (vadd (ve 3) (ve 4)) else if kd = 6 then vadd (ve 6) (ve 14) else if kd = 7 then ve 7 else ve 5

/-- The node at block a, its depth below k, all its blocks from B on: anchored answers b, emit adds v. -/
def Nd : Nat → World → Nat → Nat → Bool → (Nat → Nat) → Prop
  | 0, _, _, _, _, _ => False
  | k + 1, w, B, a, b, v => ∃ (kd mx : Int) (ao : Option Addr) (n cap : Nat) (cs : List (Nat × Bool × (Nat → Nat))) (sb : Nat) (mn : Int) (gr : Bool) (g gs : Int) (ng : Bool),
      B ≤ a ∧ w.heap[a]? = some (.cells (NodeCells kd (.slice ao n cap) sb mn mx gr g gs ng) 81 (0, 0)) ∧ cs.length = n ∧
      (n = 0 ∨ ∃ row, ao = some ⟨row, 0, none⟩ ∧ B ≤ row ∧ row < w.heap.size ∧ ∀ i c, cs[i]? = some c → w.cell? ⟨row, i, none⟩ = some (.pointer (some ⟨c.1, 0, none⟩))) ∧
      (∀ c ∈ cs, Nd k w B c.1 c.2.1 c.2.2) ∧ 0 ≤ kd ∧ kd ≤ 11 ∧ (n ≤ 3 ∧ ((kd = 4 ∨ kd = 5 ∨ kd = 6) → n = 1)) ∧ ((kd = 2 ∨ kd = 3 ∨ kd = 4 ∨ kd = 5 ∨ kd = 6) → 0 < n) ∧
      b = anchOf kd (cs.map (·.2.1)) ∧ v = vecOf kd mx (cs.map (·.2.2)) ∧ B ≤ sb ∧ ∃ lo hi, w.heap[sb]? = some (SetObj lo hi)

theorem heap_lt {w : World} {a : Nat} {o : Obj} (h : w.heap[a]? = some o) : a < w.heap.size := by
  rcases Nat.lt_or_ge a w.heap.size with h' | h'
  · exact h'
  · rw [Array.getElem?_eq_none h'] at h; cases h

theorem Nd.succ : ∀ {k : Nat} {w : World} {B a : Nat} {b : Bool} {v : Nat → Nat}, Nd k w B a b v → Nd (k + 1) w B a b v
  | 0, _, _, _, _, _, h => h.elim
  | k + 1, w, B, a, b, v, h => by
    obtain ⟨kd, mx, ao, n, cap, cs, sb, mn, gr, g, gs, ng, h1, h2, h3, h4, h5, h6⟩ := h
    exact ⟨kd, mx, ao, n, cap, cs, sb, mn, gr, g, gs, ng, h1, h2, h3, h4, fun c hc => (h5 c hc).succ, h6⟩
theorem Nd.le {k k' : Nat} {w : World} {B a : Nat} {b : Bool} {v : Nat → Nat} (h : Nd k w B a b v) (hk : k ≤ k') : Nd k' w B a b v := by
  obtain ⟨m, rfl⟩ := Nat.exists_eq_add_of_le hk
  clear hk
  induction m with
  | zero => exact h
  | succ m ih => exact ih.succ
theorem Nd.lt {k : Nat} {w : World} {B a : Nat} {b : Bool} {v : Nat → Nat} (h : Nd k w B a b v) : B ≤ a ∧ a < w.heap.size := by
  cases k with
  | zero => exact h.elim
  | succ k =>
    obtain ⟨kd, mx, ao, n, cap, cs, sb, mn, gr, g, gs, ng, h1, h2, _⟩ := h
    exact ⟨h1, heap_lt h2⟩

/-- A node stays where the blocks from B on stay. -/
theorem Nd.kept : ∀ {k : Nat} {w w' : World} {B a : Nat} {b : Bool} {v : Nat → Nat}, Nd k w B a b v → (∀ i, B ≤ i → i < w.heap.size → w'.heap[i]? = w.heap[i]?) → w.heap.size ≤ w'.heap.size → Nd k w' B a b v
  | 0, _, _, _, _, _, _, h, _, _ => h.elim
  | k + 1, w, w', B, a, b, v, h, hk, hz => by
    obtain ⟨kd, mx, ao, n, cap, cs, sb, mn, gr, g, gs, ng, h1, h2, h3, h4, h5, k1, k2, k3, k4, k5, k6, k7, lo, hi, k8⟩ := h
    refine ⟨kd, mx, ao, n, cap, cs, sb, mn, gr, g, gs, ng, h1, (hk a h1 (heap_lt h2)).trans h2, h3, ?_, fun c hc => (h5 c hc).kept hk hz, k1, k2, k3, k4, k5, k6, k7, lo, hi, (hk sb k7 (heap_lt k8)).trans k8⟩
    rcases h4 with h4 | ⟨row, e, hb, hr, hc⟩
    · exact .inl h4
    · exact .inr ⟨row, e, hb, Nat.lt_of_lt_of_le hr hz, fun i c hi => (World.cell?_of_block (a := ⟨row, i, none⟩) (hk row hb hr)).trans (hc i c hi)⟩
theorem Nd.grown {k : Nat} {w w' : World} {B a D : Nat} {b : Bool} {v : Nat → Nat} (h : Nd k w B a b v) (hg : w.grownBy w' (some D)) (hD : D < B) : Nd k w' B a b v :=
  h.kept (fun i hi hl => hg.block i hl (fun e => by cases e; omega)) hg.size
theorem Nd.below {k : Nat} {w w' : World} {B a : Nat} {b : Bool} {v : Nat → Nat} (h : Nd k w B a b v) (hg : Below w.heap.size w w') : Nd k w' B a b v :=
  h.kept (fun i _ hl => hg.block i hl) hg.size
theorem Nd.base : ∀ {k : Nat} {w : World} {B B' a : Nat} {b : Bool} {v : Nat → Nat}, Nd k w B a b v → B' ≤ B → Nd k w B' a b v
  | 0, _, _, _, _, _, _, h, _ => h.elim
  | k + 1, w, B, B', a, b, v, h, hb => by
    obtain ⟨kd, mx, ao, n, cap, cs, sb, mn, gr, g, gs, ng, h1, h2, h3, h4, h5, k1, k2, k3, k4, k5, k6, k7, k8⟩ := h
    refine ⟨kd, mx, ao, n, cap, cs, sb, mn, gr, g, gs, ng, Nat.le_trans hb h1, h2, h3, ?_, fun c hc => (h5 c hc).base hb, k1, k2, k3, k4, k5, k6, Nat.le_trans hb k7, k8⟩
    rcases h4 with h4 | ⟨row, e, hb', hr, hc⟩
    · exact .inl h4
    · exact .inr ⟨row, e, Nat.le_trans hb hb', hr, hc⟩
end Go.Proofs.Qxb6001165a
