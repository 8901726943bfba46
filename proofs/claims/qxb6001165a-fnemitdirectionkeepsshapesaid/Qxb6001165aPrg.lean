/-
  THE PROGRAM THAT emit WRITES: what of it is held, and (*program).add.
-/
import Derived.Test.Qxb6001165aDecode
import Derived.Maps.AppendAt
import Derived.Laws.OwnMore
import Derived.ArgAppend
import Derived.Deep.RegionHeld3
import Derived.Deep.RegionLaw
namespace Go.Proofs.Qxb6001165a
open Go.RowKit

theorem Prg.info63 : (Try.prog.info? 63).map (fun i => (i.zero, i.size, i.bytes)) = some (some (.agg #[.int .u8 0, .bool false, .int .i64 0, .int .i64 0, .int .i64 0, .slice none 0 0]), 6, 56) := by kernel_rfl
theorem Prg.info67 : (Try.prog.info? 67).map (fun i => (i.zero, i.size, i.bytes)) = some (some (.agg #[.int .i64 0, .int .i64 0, .bool false, .int .i64 0, .int .i64 0]), 5, 40) := by kernel_rfl
theorem Prg.info84 : (Try.prog.info? 84).map (fun i => (i.zero, i.size, i.bytes)) = some (some (.agg #[.int .i64 0, .bool false]), 2, 16) := by kernel_rfl

/-! ### append onto an owned row: where the new slice lies, which blocks stand -/
def Appended (w w' : World) (v v' : Value) : Prop :=
  (v'.ownBlock = v.ownBlock ∧ w.grownBy w' v.ownBlock) ∨ ((∃ g, v'.ownBlock = some g ∧ w.heap.size ≤ g) ∧ w.grownBy w' none)

theorem own_some {w : World} {B e s n : Nat} {v : Value} {xs : List Value} (h : w.ownsRow B e s v (n + 1) xs) : ∃ g cap, v = .slice (some ⟨g, 0, none⟩) (n + 1) cap := by
  rcases h.2 with ⟨_, h0⟩ | ⟨g, cap, _, rfl, _⟩
  · omega
  · exact ⟨g, cap, rfl⟩

theorem run_app {P : Program} (w : World) (base : Nat) (t ty e : TypeId) (i : TypeInfo) (z : Value) (size bytes : Nat) (ht : P.underlying t = some (.slice e)) (hi : P.info? e = some i) (hz : i.zero = some z)
    (hsize : i.size = size) (hby : i.bytes = bytes) (hzs : z.cells.size = size) (hsz : 0 < size)
    (v : Value) (n : Nat) (xs : List Value) (hown : w.ownsRow base e size v n xs)
    (a : Addr) (c : Nat) (news : List Value) (hl : news.length = 1 * size) (hnews : ∀ j u, news[j]? = some u → w.cell? (a.add j) = some u) (h1 : ∀ u ∈ news, u.oneCell' = true)
    (h63 : n + 1 ≤ maxLen) (hbytes : (n + 1) * bytes ≤ 140737488355328) (hbase : base ≤ w.heap.size) :
    ∃ g cap w', (Builtin.append_ #[t, t] ty #[v, .slice (some a) 1 c]).run P w = .ok (.slice (some ⟨g, 0, none⟩) (n + 1) cap) w' ∧ w'.ownsRow base e size (.slice (some ⟨g, 0, none⟩) (n + 1) cap) (n + 1) (xs ++ news) ∧ Appended w w' v (.slice (some ⟨g, 0, none⟩) (n + 1) cap) := by
  rcases hown.2 with ⟨rfl, rfl⟩ | ⟨g, cap, cur, rfl, hbg, hg, hnc, hcm, hcs, htake⟩
  · obtain ⟨v', w', hr, h2, h3, _, h5⟩ := run_append_own_at (P := P) w base t ty e i z size bytes ht hi hz hsize hby hzs hsz (.slice none 0 0) 0 xs hown a 1 c news hl hnews h1 h63 hbytes hbase
    obtain ⟨g, cap, rfl⟩ := own_some h2
    refine ⟨g, cap, w', hr, h2, .inr ⟨⟨g, rfl, ?_⟩, h3⟩⟩
    rcases h5 with h5 | h5
    · simp [Value.ownBlock] at h5
    · simp [Value.ownBlock] at h5; omega
  · by_cases hroom : n + 1 ≤ cap
    · obtain ⟨w', hr, h2, h3⟩ := run_append_fits (P := P) w base t ty e i size ht hi hsize g n cap xs hown a 1 c news hl hnews h1 hroom
      exact ⟨g, cap, w', hr, h2, .inl ⟨rfl, h3⟩⟩
    · obtain ⟨v', w', hr, h2, h3⟩ := run_append_arg_grows (P := P) w t ty e i z size bytes ht hi hz hsize hby hzs hsz ⟨g, 0, none⟩ n cap xs hown.1 (hown.cells rfl) a 1 c news hl hnews (by omega) h63 hbytes
      obtain ⟨g', cap', rfl⟩ := own_some h2
      refine ⟨g', cap', w', hr, ?_, .inr ⟨⟨g', rfl, (h2.lt g' rfl).1⟩, h3⟩⟩
      rcases h2.2 with ⟨h', _⟩ | ⟨g2, c2, cur2, h', hb2, rest⟩
      · simp at h'
      · exact ⟨h2.1, .inr ⟨g2, c2, cur2, h', Nat.le_trans hbase hb2, rest⟩⟩

theorem step_app {P : Program} {ops : Array Oper} {o : Oper} {a : Act} {w : World} {K : Act → World → Prop} {Q : Exit → Act → World → Prop} {E : Prop}
    (hg : o.guard = none) (s x : Operand) (t : TypeId) (hop : o.op = Op.call { callee := Callee.builtin Builtin.append, args := #[s, x], argTypes := #[t, t] })
    (base : Nat) (e : TypeId) (i : TypeInfo) (z : Value) (size bytes : Nat) (h1 : P.underlying t = some (.slice e)) (h2 : P.info? e = some i) (h3 : i.zero = some z) (h4 : i.size = size) (h5 : i.bytes = bytes) (h6 : z.cells.size = size) (h7 : 0 < size)
    (v : Value) (n : Nat) (xs : List Value) (hs : a.eval s = v) (hown : w.ownsRow base e size v n xs)
    (ad : Addr) (c : Nat) (news : List Value) (hx : a.eval x = .slice (some ad) 1 c) (hn : news.length = 1 * size) (hc : ∀ j u, news[j]? = some u → w.cell? (ad.add j) = some u) (h1c : ∀ u ∈ news, u.oneCell' = true)
    (b1 : n + 1 ≤ maxLen) (b2 : (n + 1) * bytes ≤ 140737488355328) (hb : base ≤ w.heap.size)
    (hK : ∀ g cap w', w'.ownsRow base e size (.slice (some ⟨g, 0, none⟩) (n + 1) cap) (n + 1) (xs ++ news) → Appended w w' v (.slice (some ⟨g, 0, none⟩) (n + 1) cap) → K (a.put o.dst (.slice (some ⟨g, 0, none⟩) (n + 1) cap)) w') :
    if Region.wanted o (yielded ops a.tmps) = true then Oper.wp P o a w K Q else E := by
  have hw : Region.wanted o (yielded ops a.tmps) = true := by simp [Region.wanted, hg]
  rw [if_pos hw]
  obtain ⟨g, cap, w', hrun, r1, r2⟩ := run_app (P := P) w base t o.type e i z size bytes h1 h2 h3 h4 h5 h6 h7 v n xs hown ad c news hn hc h1c b1 b2 hb
  unfold Oper.wp
  simp [execOp, hop, resolve, invoke, builtin, hs, hx, hrun, Result.andThen]
  exact hK g cap w' r1 r2

/-! ### Which rows and blocks stand behind it -/
theorem row_block {w : World} {B e s n : Nat} {v : Value} {xs : List Value} (h : w.ownsRow B e s v n xs) {g : Nat} (hg : v.ownBlock = some g) : ∃ cur, w.heap[g]? = some (.cells cur e (0, 0)) ∧ B ≤ g ∧ n * s ≤ cur.size := by
  rcases h.2 with ⟨rfl, _⟩ | ⟨g', cap, cur, rfl, hb, hgg, hn, _, hc, _⟩
  · simp [Value.ownBlock] at hg
  · simp [Value.ownBlock] at hg
    subst hg
    exact ⟨cur, hgg, hb, by rw [hc]; exact Nat.mul_le_mul_right _ hn⟩
theorem row_other {w w' : World} {B B' e e' s s' n n' : Nat} {v u u' : Value} {xs ys : List Value} (h : w.ownsRow B e s v n xs) (h' : w.ownsRow B' e' s' u n' ys) (he : e ≠ e') (ha : Appended w w' u u') : w'.ownsRow B e s v n xs := by
  rcases ha with ⟨_, hg⟩ | ⟨_, hg⟩
  · refine h.kept hg ?_
    cases hv : v.ownBlock with
    | none => exact .inl rfl
    | some g =>
      refine .inr fun e1 => he ?_
      obtain ⟨c1, q1, _⟩ := row_block h hv
      obtain ⟨c2, q2, _⟩ := row_block h' e1.symm
      rw [q1] at q2
      simp at q2
      exact q2.2
  · refine h.kept hg ?_
    cases hv : v.ownBlock <;> simp
theorem block_stays {w w' : World} {B e s n p : Nat} {u u' : Value} {ys : List Value} {o : Obj} (hp : w.heap[p]? = some o) (hb : p < B) (h : w.ownsRow B e s u n ys) (ha : Appended w w' u u') : w'.heap[p]? = some o := by
  rcases ha with ⟨_, hg⟩ | ⟨_, hg⟩
  · refine (hg.block p (heap_lt hp) fun e1 => ?_).trans hp
    have := (h.lt p e1.symm).1
    omega
  · exact (hg.block p (heap_lt hp) (by simp)).trans hp
theorem below_app {w0 w w' : World} {B P e s n : Nat} {u u' : Value} {ys : List Value} (hb : Below P w0 w) (hP : P ≤ w.heap.size) (hPB : P ≤ B) (h : w.ownsRow B e s u n ys) (ha : Appended w w' u u') : Below P w0 w' := by
  rcases ha with ⟨_, hg⟩ | ⟨_, hg⟩
  · exact hb.grown hg hP fun k hk => Nat.le_trans hPB (h.lt k hk).1
  · exact hb.grown hg hP fun k hk => by cases hk
theorem size_app {w w' : World} {u u' : Value} (ha : Appended w w' u u') : w.heap.size ≤ w'.heap.size := by
  rcases ha with ⟨_, hg⟩ | ⟨_, hg⟩ <;> exact hg.size

/-! ### The program -/
/-- A set slice: nil, or the one pair of a node. -/
def SetOk (w0 : World) (sa : Option Addr) (sn sc : Nat) : Prop := (sa = none ∧ sn = 0 ∧ sc = 0) ∨ ∃ sb lo hi, sa = some ⟨sb, 0, none⟩ ∧ sn = 1 ∧ sc = 1 ∧ w0.heap[sb]? = some (SetObj lo hi)
/-- The cells xs hold the instructions whose opcodes are ops. -/
def Ins (w0 : World) (xs : List Value) (ops : List Nat) : Prop :=
  ∀ i o, ops[i]? = some o → o ≤ 12 ∧ xs[6 * i]? = some (.int .u8 o) ∧ (∃ b, xs[6 * i + 1]? = some (.bool b)) ∧ (∃ n, xs[6 * i + 2]? = some (.int .i64 n)) ∧ (∃ n, xs[6 * i + 3]? = some (.int .i64 n)) ∧ (∃ n, xs[6 * i + 4]? = some (.int .i64 n)) ∧
    ∃ sa sn sc, xs[6 * i + 5]? = some (.slice sa sn sc) ∧ SetOk w0 sa sn sc
/-- The rows of integers that stand in F stand in w. -/
def Keep (F w : World) : Prop := F.heap.size ≤ w.heap.size ∧ ∀ (g : Nat) (cur : Array Value), F.heap[g]? = some (.cells cur 3 (0, 0)) → w.heap[g]? = some (.cells cur 3 (0, 0))
theorem Keep.refl (F : World) : Keep F F := ⟨Nat.le_refl _, fun _ _ h => h⟩
theorem Keep.trans {F w w' : World} (h : Keep F w) (k : Keep w w') : Keep F w' := ⟨Nat.le_trans h.1 k.1, fun g c hg => k.2 g c (h.2 g c hg)⟩
theorem Keep.below {F w w' : World} (h : Keep F w) (k : Below w.heap.size w w') : Keep F w' := ⟨Nat.le_trans h.1 k.size, fun g c hg => (k.block g (heap_lt (h.2 g c hg))).trans (h.2 g c hg)⟩
theorem Keep.app {F w w' : World} {B e s n : Nat} {u u' : Value} {ys : List Value} (h : Keep F w) (hr : w.ownsRow B e s u n ys) (he : e ≠ 3) (ha : Appended w w' u u') : Keep F w' := ⟨Nat.le_trans h.1 (size_app ha), fun g c hg => by
  have hw := h.2 g c hg
  rcases ha with ⟨_, k⟩ | ⟨_, k⟩
  · refine (k.block g (heap_lt hw) fun e1 => ?_).trans hw
    obtain ⟨c1, q1, _⟩ := row_block hr e1.symm
    rw [hw] at q1
    simp at q1
    exact he q1.2.symm
  · exact (k.block g (heap_lt hw) (by simp)).trans hw⟩
theorem Keep.set {F w : World} {p : Nat} {cur : Array Value} {t : TypeId} {fz : Nat × Nat} (h : Keep F w) (hp : w.heap[p]? = some (.cells cur t fz)) (ht : t ≠ 3) (j : Nat) (v : Value) : Keep F (w.setCell ⟨p, j, none⟩ v) := ⟨by simpa using h.1, fun g c hg => by
  have hw := h.2 g c hg
  refine (Below.heap_setCell _ _ _ _ fun e => ?_).trans hw
  have e' : g = p := e
  subst e'
  rw [hw] at hp
  simp at hp
  exact ht hp.2.1.symm⟩
abbrev PrgObj (ai al ak : Option Addr) (ni ci nl cl nk ck : Nat) : Obj := .cells #[.slice ai ni ci, .slice al nl cl, .slice ak nk ck, .int .i64 0, .bool false] 56 (0, 0)
def Prg (w0 F w : World) (P : Nat) (ops : List Nat) (nl nk nb : Nat) : Prop :=
  ∃ (ai al ak ab : Option Addr) (ci cl ck cb : Nat) (xs xl xk xb : List Value), w.heap[P]? = some (PrgObj ai al ak ops.length ci nl cl nk ck) ∧ w.heap[P + 1]? = some (.cells #[.slice ab nb cb] 39 (0, 0)) ∧
    w.ownsRow (P + 2) 63 6 (.slice ai ops.length ci) ops.length xs ∧ w.ownsRow (P + 2) 67 5 (.slice al nl cl) nl xl ∧ w.ownsRow (P + 2) 84 2 (.slice ak nk ck) nk xk ∧ w.ownsRow (P + 2) 25 1 (.slice ab nb cb) nb xb ∧
    Ins w0 xs ops ∧ Below P w0 w ∧ Keep F w

theorem Prg.size {w0 F w : World} {P : Nat} {ops : List Nat} {nl nk nb : Nat} (h : Prg w0 F w P ops nl nk nb) : P + 2 ≤ w.heap.size := by
  obtain ⟨ai, al, ak, ab, ci, cl, ck, cb, xs, xl, xk, xb, _, h1, _⟩ := h
  exact heap_lt h1

theorem Ins.snoc {w0 : World} {xs : List Value} {ops : List Nat} (h : Ins w0 xs ops) (hl : xs.length = ops.length * 6) (o : Nat) (ho : o ≤ 12) (b : Bool) (n x y : Int) (sa : Option Addr) (sn sc : Nat) (hs : SetOk w0 sa sn sc) :
    Ins w0 (xs ++ [.int .u8 o, .bool b, .int .i64 n, .int .i64 x, .int .i64 y, .slice sa sn sc]) (ops ++ [o]) := by
  intro i q hq
  by_cases hi : i < ops.length
  · rw [List.getElem?_append_left hi] at hq
    obtain ⟨h0, h1, h2, h3, h4, h5, h6⟩ := h i q hq
    rw [List.getElem?_append_left (by omega), List.getElem?_append_left (by omega), List.getElem?_append_left (by omega), List.getElem?_append_left (by omega), List.getElem?_append_left (by omega), List.getElem?_append_left (by omega)]
    exact ⟨h0, h1, h2, h3, h4, h5, h6⟩
  · rw [List.getElem?_append_right (by omega)] at hq
    obtain ⟨e1, e2⟩ : i - ops.length = 0 ∧ o = q := by
      cases hj : i - ops.length with
      | zero => rw [hj] at hq; simpa using hq
      | succ j => rw [hj] at hq; simp at hq
    obtain rfl : i = ops.length := by omega
    subst e2
    have key : ∀ k, (xs ++ [Value.int .u8 o, .bool b, .int .i64 n, .int .i64 x, .int .i64 y, .slice sa sn sc])[6 * ops.length + k]? = [Value.int .u8 o, .bool b, .int .i64 n, .int .i64 x, .int .i64 y, .slice sa sn sc][k]? := by
      intro k
      rw [List.getElem?_append_right (by omega)]
      congr 1
      omega
    exact ⟨ho, key 0, ⟨b, key 1⟩, ⟨n, key 2⟩, ⟨x, key 3⟩, ⟨y, key 4⟩, sa, sn, sc, key 5, hs⟩
theorem Ins.set {w0 : World} {xs : List Value} {ops : List Nat} (h : Ins w0 xs ops) (i k : Nat) (hk : k = 3 ∨ k = 4) (n : Int) : Ins w0 (xs.set (6 * i + k) (.int .i64 n)) ops := by
  intro j o hj
  obtain ⟨h0, h1, h2, h3, ⟨x, h4⟩, ⟨y, h5⟩, h6⟩ := h j o hj
  have l4 := (List.getElem?_eq_some_iff.1 h4).1
  have l5 := (List.getElem?_eq_some_iff.1 h5).1
  rw [List.getElem?_set_ne (by omega), List.getElem?_set_ne (by omega), List.getElem?_set_ne (by omega), List.getElem?_set_ne (i := 6 * i + k) (j := 6 * j + 5) (by omega)]
  refine ⟨h0, h1, h2, h3, ?_, ?_, h6⟩
  · by_cases e : 6 * i + k = 6 * j + 3
    · rw [e, List.getElem?_set_self l4]; exact ⟨n, rfl⟩
    · rw [List.getElem?_set_ne e]; exact ⟨x, h4⟩
  · by_cases e : 6 * i + k = 6 * j + 4
    · rw [e, List.getElem?_set_self l5]; exact ⟨n, rfl⟩
    · rw [List.getElem?_set_ne e]; exact ⟨y, h5⟩
end Go.Proofs.Qxb6001165a
