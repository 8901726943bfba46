/-
  emit: the append onto the loops (a region that draws its order, by itself: the kernel has not the room for it inside the walk).
-/
import Derived.Test.Qxb6001165aEmitE
namespace Go.Proofs.Qxb6001165a
open Go.RowKit

/-- The operations of a function's region. -/
def regionOps : Code → Nat → Option (Array Oper)
  | .region id ops _, n => if id = n then some ops else none
  | .seq a b, n => match regionOps a n with
    | some o => some o
    | none => regionOps b n
  | .cond _ a b, n => match regionOps a n with
    | some o => some o
    | none => regionOps b n
  | .block _ a, n => regionOps a n
  | .loop a, n => regionOps a n
  | .scope a, n => regionOps a n
  | _, _ => none

theorem getZ {x : Oper} {l : List Oper} : (List.toArray (x :: l))[0]? = some x := rfl
theorem getS {x y : Oper} {l : List Oper} {i : Nat} (h : (List.toArray l)[i]? = some y) : (List.toArray (x :: l))[i + 1]? = some y := by simpa using h

/-- The rows into which a store behind an add goes: the new one or the elder one. -/
theorem Prg.puts {w0 F w w' : World} {P : Nat} {ops : List Nat} {nl nk nb o g0 m c hd k : Nat} (h : Prg w0 F w' P (ops ++ [o]) nl nk nb) (hst : Stale w w' P ops.length) (hp : w.cell? ⟨P, 0, none⟩ = some (.slice (some ⟨g0, 0, none⟩) m c)) (hl : ops.length = hd + 1) (hk : k = 3 ∨ k = 4) :
    ∃ g1 k1 u0 u1, w'.cell? ⟨P, 0, none⟩ = some (.slice (some ⟨g1, 0, none⟩) (hd + 1 + 1) k1) ∧ w'.cell? ⟨g1, hd * 6 + k, none⟩ = some u1 ∧ w'.frozen? ⟨g1, hd * 6 + k, none⟩ = false ∧ w'.cell? ⟨g0, hd * 6 + k, none⟩ = some u0 ∧ w'.frozen? ⟨g0, hd * 6 + k, none⟩ = false ∧
      Hid (∀ n, Prg w0 F (w'.setCell ⟨g1, hd * 6 + k, none⟩ (.int .i64 n)) P (ops ++ [o]) nl nk nb) ∧ Hid (∀ n, Prg w0 F (w'.setCell ⟨g0, hd * 6 + k, none⟩ (.int .i64 n)) P (ops ++ [o]) nl nk nb) := by
  have e1 : (ops ++ [o]).length = hd + 1 + 1 := by simp [hl]
  obtain ⟨g1, k1, cur1, p1, b1, q1, s1⟩ := h.row (by omega)
  obtain ⟨cur0, b0, q0, s0⟩ := hst g0 m c hp
  obtain ⟨u1, x1, y1⟩ := put_cell b1 (j := hd * 6 + k) (by omega)
  obtain ⟨u0, x0, y0⟩ := put_cell b0 (j := hd * 6 + k) (by omega)
  rw [e1] at p1
  have e : hd * 6 + k = 6 * hd + k := by omega
  refine ⟨g1, k1, u0, u1, p1, x1, y1, x0, y0, fun n => ?_, fun n => ?_⟩
  · rw [e]; exact h.put b1 q1 hd k hk n
  · rw [e]; exact h.put b0 q0 hd k hk n

theorem oneCell_loop (mn mx : Int) (gr : Bool) (g gs : Int) : ∀ u ∈ [Value.int .i64 mn, .int .i64 mx, .bool gr, .int .i64 g, .int .i64 gs], u.oneCell' = true := by
  intro u hu
  simp at hu
  rcases hu with rfl | rfl | rfl | rfl | rfl <;> rfl

set_option maxRecDepth 8000 in
set_option maxHeartbeats 4000000 in
theorem reg36 (ops36 : Array Oper) (hops : Try.f30.body.bind (regionOps · 36) = some ops36) (w0 F w : World) (P a : Nat) (ops : List Nat) (nl nk nb : Nat) (row n cap : Nat) (sb : Nat) (mn mx : Int) (gr : Bool) (g gs : Int) (ng : Bool) (hP : w0.heap.size = P) (ha : w0.heap[a]? = some (.cells (NodeCells 4 (.slice (some ⟨row, 0, none⟩) n cap) sb mn mx gr g gs ng) 81 (0, 0)))
    (hp : Prg w0 F w P ops nl nk nb) (hl : nl ≤ 2000000) (Q : Exit → Act → World → Prop) (hQ : ∀ c b d v w, Q (.panic c) (b.put d v) w → Q (.panic c) b w)
    (u2 u3 u4 u5 u6 u7 u8 u9 u10 u11 u12 u13 u14 u15 u16 u17 u18 u19 u20 u21 u22 u23 u24 u25 u26 u27 u28 u29 u30 u31 u32 u33 u34 u35 u36 u37 u38 u39 u40 u41 u42 u43 u44 u45 u46 u47 u48 u49 u50 u51 u52 u53 u54 u55 u56 u57 u58 u59 u60 u61 u62 u63 u64 u65 u66 u67 u68 u69 u70 u71 u72 u73 u74 u75 u76 u77 u78 u79 u80 u81 u82 u83 u84 u85 u86 u87 u88 u89 u90 u91 u92 u93 u94 u95 u96 u97 u98 u99 u100 u101 u102 u103 u104 u105 u106 u107 u108 u109 u110 u111 u112 u113 u114 u115 u116 u117 u118 u119 u120 u121 u122 u123 u124 u125 u126 u127 u128 u129 u130 u131 u132 u133 u134 u135 u136 u137 u138 u139 u140 u141 u142 u143 u144 u145 u146 u147 u148 u149 u150 u151 u152 u153 u154 u155 u156 u157 u158 u159 u160 u161 u162 u163 u164 u165 u166 u167 u168 u169 u170 u171 u172 u173 u174 u175 u176 u177 u178 u179 u180 u181 u182 u183 u184 u185 u186 u187 u188 u189 u190 u191 u192 u193 u194 u195 u196 u197 u198 u199 u200 u201 u202 u203 u204 u205 u206 u207 u208 u209 u210 u211 u212 u213 u214 u215 u216 u217 u218 u219 u220 u221 u222 u223 u224 u225 u226 u227 u228 u229 u230 u231 u232 u233 u234 u235 u236 u237 u238 u239 u240 u241 u242 u243 u244 u245 u246 u247 u248 u249 u250 u251 u252 u253 u254 u255 u256 u257 u258 u259 u260 u261 u262 u263 u264 u265 u266 u267 u268 u269 u270 u271 u272 u273 u274 u275 u276 u277 u278 u279 u280 u281 u282 u283 u284 u285 u286 u287 u288 u289 u290 u291 u292 u293 u294 u295 u296 u297 u298 u299 u300 u301 u302 u303 u304 u305 u306 u307 u308 u309 u310 u311 : Value)
    (hN : ∀ (wx : World) (t181 t182 t183 t184 t185 t186 t187 t188 t189 t190 t191 t192 t193 t194 t195 t196 t197 t198 t199 t200 t201 t202 t203 t204 t205 t206 t207 t208 t209 t210 : Value), Hid (Prg w0 F wx P ops (nl + 1) nk nb) → Q .normal ⟨#[.pointer (some ⟨P, 0, none⟩), .pointer (some ⟨a, 0, none⟩), u2, u3, u4, u5, u6, u7, u8, u9, u10, u11, u12, u13, u14, u15, u16, u17, u18, u19, u20, u21, u22, u23, u24, u25, u26, u27, u28, u29, u30, u31, u32, u33, u34, u35, u36, u37, u38, u39, u40, u41, u42, u43, u44, u45, u46, u47, u48, u49, u50, u51, u52, u53, u54, u55, u56, u57, u58, u59, u60, u61, u62, u63, u64, u65, u66, u67, u68, u69, u70, u71, u72, u73, u74, u75, u76, u77, u78, u79, u80, u81, u82, u83, u84, u85, u86, u87, u88, u89, u90, u91, u92, u93, u94, u95, u96, u97, u98, u99, u100, u101, u102, u103, u104, u105, u106, u107, u108, u109, u110, u111, u112, u113, u114, u115, u116, u117, u118, u119, u120, u121, u122, u123, u124, u125, u126, u127, u128, u129, u130, u131, u132, u133, u134, u135, u136, u137, u138, u139, u140, u141, u142, u143, u144, u145, u146, u147, u148, u149, u150, u151, u152, u153, u154, u155, u156, u157, u158, u159, u160, u161, u162, u163, u164, u165, u166, u167, u168, u169, u170, u171, u172, u173, u174, u175, u176, u177, u178, u179, u180, t181, t182, t183, t184, t185, t186, t187, t188, t189, t190, t191, t192, t193, t194, t195, t196, t197, t198, t199, t200, t201, t202, t203, t204, t205, t206, t207, t208, t209, t210, u211, u212, u213, u214, u215, u216, u217, u218, u219, u220, u221, u222, u223, u224, u225, u226, u227, u228, u229, u230, u231, u232, u233, u234, u235, u236, u237, u238, u239, u240, u241, u242, u243, u244, u245, u246, u247, u248, u249, u250, u251, u252, u253, u254, u255, u256, u257, u258, u259, u260, u261, u262, u263, u264, u265, u266, u267, u268, u269, u270, u271, u272, u273, u274, u275, u276, u277, u278, u279, u280, u281, u282, u283, u284, u285, u286, u287, u288, u289, u290, u291, u292, u293, u294, u295, u296, u297, u298, u299, u300, u301, u302, u303, u304, u305, u306, u307, u308, u309, u310, u311], []⟩ wx) :
    (Code.region 36 ops36 true).wp Try.prog Q ⟨#[.pointer (some ⟨P, 0, none⟩), .pointer (some ⟨a, 0, none⟩), u2, u3, u4, u5, u6, u7, u8, u9, u10, u11, u12, u13, u14, u15, u16, u17, u18, u19, u20, u21, u22, u23, u24, u25, u26, u27, u28, u29, u30, u31, u32, u33, u34, u35, u36, u37, u38, u39, u40, u41, u42, u43, u44, u45, u46, u47, u48, u49, u50, u51, u52, u53, u54, u55, u56, u57, u58, u59, u60, u61, u62, u63, u64, u65, u66, u67, u68, u69, u70, u71, u72, u73, u74, u75, u76, u77, u78, u79, u80, u81, u82, u83, u84, u85, u86, u87, u88, u89, u90, u91, u92, u93, u94, u95, u96, u97, u98, u99, u100, u101, u102, u103, u104, u105, u106, u107, u108, u109, u110, u111, u112, u113, u114, u115, u116, u117, u118, u119, u120, u121, u122, u123, u124, u125, u126, u127, u128, u129, u130, u131, u132, u133, u134, u135, u136, u137, u138, u139, u140, u141, u142, u143, u144, u145, u146, u147, u148, u149, u150, u151, u152, u153, u154, u155, u156, u157, u158, u159, u160, u161, u162, u163, u164, u165, u166, u167, u168, u169, u170, u171, u172, u173, u174, u175, u176, u177, u178, u179, u180, u181, u182, u183, u184, u185, u186, u187, u188, u189, u190, u191, u192, u193, u194, u195, u196, u197, u198, u199, u200, u201, u202, u203, u204, u205, u206, u207, u208, u209, u210, u211, u212, u213, u214, u215, u216, u217, u218, u219, u220, u221, u222, u223, u224, u225, u226, u227, u228, u229, u230, u231, u232, u233, u234, u235, u236, u237, u238, u239, u240, u241, u242, u243, u244, u245, u246, u247, u248, u249, u250, u251, u252, u253, u254, u255, u256, u257, u258, u259, u260, u261, u262, u263, u264, u265, u266, u267, u268, u269, u270, u271, u272, u273, u274, u275, u276, u277, u278, u279, u280, u281, u282, u283, u284, u285, u286, u287, u288, u289, u290, u291, u292, u293, u294, u295, u296, u297, u298, u299, u300, u301, u302, u303, u304, u305, u306, u307, u308, u309, u310, u311], []⟩ w := by
  obtain rfl := Option.some.inj (hops.symm.trans (rfl : Try.f30.body.bind (regionOps · 36) = some _))
  have hn := hp.node hP ha
  have c3 : w.cell? ⟨a, 3, none⟩ = some (.int .i64 mn) := row_cell hn rfl
  have c4 : w.cell? ⟨a, 4, none⟩ = some (.int .i64 mx) := row_cell hn rfl
  have c5 : w.cell? ⟨a, 5, none⟩ = some (.bool gr) := row_cell hn rfl
  have c6 : w.cell? ⟨a, 6, none⟩ = some (.int .i64 g) := row_cell hn rfl
  have c7 : w.cell? ⟨a, 7, none⟩ = some (.int .i64 gs) := row_cell hn rfl
  obtain ⟨al, cl, p1, hW⟩ := hp.appLoops
  obtain ⟨xk, HW, HS, HH⟩ := hW (w.drew.alloc (.cells #[.int .i64 mn, .int .i64 mx, .bool gr, .int .i64 g, .int .i64 gs] 67)) (((Below.refl _ _).drew).alloc (Nat.le_refl _) _) [.int .i64 mn, .int .i64 mx, .bool gr, .int .i64 g, .int .i64 gs]
  have HL : Hid (∀ j u, [Value.int .i64 mn, .int .i64 mx, .bool gr, .int .i64 g, .int .i64 gs][j]? = some u → (w.drew.alloc (.cells #[.int .i64 mn, .int .i64 mx, .bool gr, .int .i64 g, .int .i64 gs] 67)).cell? ((⟨w.heap.size, 0, none⟩ : Addr).add j) = some u) := lit_cells (heap_top w.drew _)
  have hs1 : P < w.heap.size := by have := hp.size; omega
  have haP : a < P := by have := heap_lt ha; omega
  have hax : a ≠ P := by omega
  have hax' : P ≠ a := by omega
  have hasz : a < w.heap.size := by omega
  have HA : Hid (w0.heap[a]? = some (.cells (NodeCells 4 (.slice (some ⟨row, 0, none⟩) n cap) sb mn mx gr g gs ng) 81 (0, 0))) := ha
  have HN : Hid (∀ (wx : World) (t181 t182 t183 t184 t185 t186 t187 t188 t189 t190 t191 t192 t193 t194 t195 t196 t197 t198 t199 t200 t201 t202 t203 t204 t205 t206 t207 t208 t209 t210 : Value), Hid (Prg w0 F wx P ops (nl + 1) nk nb) → Q .normal ⟨#[.pointer (some ⟨P, 0, none⟩), .pointer (some ⟨a, 0, none⟩), u2, u3, u4, u5, u6, u7, u8, u9, u10, u11, u12, u13, u14, u15, u16, u17, u18, u19, u20, u21, u22, u23, u24, u25, u26, u27, u28, u29, u30, u31, u32, u33, u34, u35, u36, u37, u38, u39, u40, u41, u42, u43, u44, u45, u46, u47, u48, u49, u50, u51, u52, u53, u54, u55, u56, u57, u58, u59, u60, u61, u62, u63, u64, u65, u66, u67, u68, u69, u70, u71, u72, u73, u74, u75, u76, u77, u78, u79, u80, u81, u82, u83, u84, u85, u86, u87, u88, u89, u90, u91, u92, u93, u94, u95, u96, u97, u98, u99, u100, u101, u102, u103, u104, u105, u106, u107, u108, u109, u110, u111, u112, u113, u114, u115, u116, u117, u118, u119, u120, u121, u122, u123, u124, u125, u126, u127, u128, u129, u130, u131, u132, u133, u134, u135, u136, u137, u138, u139, u140, u141, u142, u143, u144, u145, u146, u147, u148, u149, u150, u151, u152, u153, u154, u155, u156, u157, u158, u159, u160, u161, u162, u163, u164, u165, u166, u167, u168, u169, u170, u171, u172, u173, u174, u175, u176, u177, u178, u179, u180, t181, t182, t183, t184, t185, t186, t187, t188, t189, t190, t191, t192, t193, t194, t195, t196, t197, t198, t199, t200, t201, t202, t203, t204, t205, t206, t207, t208, t209, t210, u211, u212, u213, u214, u215, u216, u217, u218, u219, u220, u221, u222, u223, u224, u225, u226, u227, u228, u229, u230, u231, u232, u233, u234, u235, u236, u237, u238, u239, u240, u241, u242, u243, u244, u245, u246, u247, u248, u249, u250, u251, u252, u253, u254, u255, u256, u257, u258, u259, u260, u261, u262, u263, u264, u265, u266, u267, u268, u269, u270, u271, u272, u273, u274, u275, u276, u277, u278, u279, u280, u281, u282, u283, u284, u285, u286, u287, u288, u289, u290, u291, u292, u293, u294, u295, u296, u297, u298, u299, u300, u301, u302, u303, u304, u305, u306, u307, u308, u309, u310, u311], []⟩ wx) := hN
  clear hp hn ha hW hN hops
  obtain ⟨i0, hi, hz0, hz1, hz2⟩ := info_parts Prg.info67
  refine wp_region_held_drew (S := fun w' => w'.cell? ⟨a, 3, none⟩ = some (.int .i64 mn) ∧ w'.cell? ⟨a, 4, none⟩ = some (.int .i64 mx) ∧ w'.cell? ⟨a, 5, none⟩ = some (.bool gr) ∧ w'.cell? ⟨a, 6, none⟩ = some (.int .i64 g) ∧ w'.cell? ⟨a, 7, none⟩ = some (.int .i64 gs)) (by kernel_rfl) (by go_keep) (fun hHeld => ?_)
  refine wpAnyH_take (i := 0) (v := ?_) getZ (by kernel_rfl) (by kernel_rfl) (by kernel_rfl) (fun c b w => hQ c b _ _ w) (Or.inl ⟨by rfl, ?_⟩) (by assumption) ?_
  rotate_left
  · intro w hSw; (try dsimp only at hSw); go_simp; with_reducible rfl
  simp only [Act.put, List.setIfInBounds_toArray, List.set_cons_zero, List.set_cons_succ]
  refine wpAnyH_take (i := 1) (v := ?_) (getS getZ) (by kernel_rfl) (by kernel_rfl) (by kernel_rfl) (fun c b w => hQ c b _ _ w) (Or.inl ⟨by rfl, ?_⟩) (by assumption) ?_
  rotate_left
  · intro w hSw; (try dsimp only at hSw); go_simp; with_reducible rfl
  simp only [Act.put, List.setIfInBounds_toArray, List.set_cons_zero, List.set_cons_succ]
  refine wpAnyH_take (i := 2) (v := ?_) (getS (getS getZ)) (by kernel_rfl) (by kernel_rfl) (by kernel_rfl) (fun c b w => hQ c b _ _ w) (Or.inl ⟨by rfl, ?_⟩) (by assumption) ?_
  rotate_left
  · intro w hSw; (try dsimp only at hSw); go_simp; with_reducible rfl
  simp only [Act.put, List.setIfInBounds_toArray, List.set_cons_zero, List.set_cons_succ]
  refine wpAnyH_take (i := 3) (v := ?_) (getS (getS (getS getZ))) (by kernel_rfl) (by kernel_rfl) (by kernel_rfl) (fun c b w => hQ c b _ _ w) (Or.inl ⟨by rfl, ?_⟩) (by assumption) ?_
  rotate_left
  · intro w hSw; (try dsimp only at hSw); go_simp; with_reducible rfl
  simp only [Act.put, List.setIfInBounds_toArray, List.set_cons_zero, List.set_cons_succ]
  refine wpAnyH_take (i := 5) (v := ?_) (getS (getS (getS (getS (getS getZ))))) (by kernel_rfl) (by kernel_rfl) (by kernel_rfl) (fun c b w => hQ c b _ _ w) (Or.inl ⟨by rfl, ?_⟩) (by assumption) ?_
  rotate_left
  · intro w hSw; (try dsimp only at hSw); go_simp; with_reducible rfl
  simp only [Act.put, List.setIfInBounds_toArray, List.set_cons_zero, List.set_cons_succ]
  refine wpAnyH_take (i := 6) (v := ?_) (getS (getS (getS (getS (getS (getS getZ)))))) (by kernel_rfl) (by kernel_rfl) (by kernel_rfl) (fun c b w => hQ c b _ _ w) (Or.inl ⟨by rfl, ?_⟩) (by assumption) ?_
  rotate_left
  · intro w hSw; (try dsimp only at hSw); go_simp; with_reducible rfl
  simp only [Act.put, List.setIfInBounds_toArray, List.set_cons_zero, List.set_cons_succ]
  refine wpAnyH_take (i := 7) (v := ?_) (getS (getS (getS (getS (getS (getS (getS getZ))))))) (by kernel_rfl) (by kernel_rfl) (by kernel_rfl) (fun c b w => hQ c b _ _ w) (Or.inl ⟨by rfl, ?_⟩) (by assumption) ?_
  rotate_left
  · intro w hSw; (try dsimp only at hSw); go_simp; with_reducible rfl
  simp only [Act.put, List.setIfInBounds_toArray, List.set_cons_zero, List.set_cons_succ]
  refine wpAnyH_take (i := 8) (v := ?_) (getS (getS (getS (getS (getS (getS (getS (getS getZ)))))))) (by kernel_rfl) (by kernel_rfl) (by kernel_rfl) (fun c b w => hQ c b _ _ w) (Or.inl ⟨by rfl, ?_⟩) (by assumption) ?_
  rotate_left
  · intro w hSw; (try dsimp only at hSw); go_simp; with_reducible rfl
  simp only [Act.put, List.setIfInBounds_toArray, List.set_cons_zero, List.set_cons_succ]
  refine wpAnyH_take (i := 9) (v := ?_) (getS (getS (getS (getS (getS (getS (getS (getS (getS getZ))))))))) (by kernel_rfl) (by kernel_rfl) (by kernel_rfl) (fun c b w => hQ c b _ _ w) (Or.inl ⟨by rfl, ?_⟩) (by assumption) ?_
  rotate_left
  · intro w hSw; (try dsimp only at hSw); go_simp; with_reducible rfl
  simp only [Act.put, List.setIfInBounds_toArray, List.set_cons_zero, List.set_cons_succ]
  refine wpAnyH_take (i := 10) (v := ?_) (getS (getS (getS (getS (getS (getS (getS (getS (getS (getS getZ)))))))))) (by kernel_rfl) (by kernel_rfl) (by kernel_rfl) (fun c b w => hQ c b _ _ w) (Or.inl ⟨by rfl, ?_⟩) (by assumption) ?_
  rotate_left
  · intro w hSw; (try dsimp only at hSw); go_simp; with_reducible rfl
  simp only [Act.put, List.setIfInBounds_toArray, List.set_cons_zero, List.set_cons_succ]
  refine wpAnyH_take (i := 11) (v := ?_) (getS (getS (getS (getS (getS (getS (getS (getS (getS (getS (getS getZ))))))))))) (by kernel_rfl) (by kernel_rfl) (by kernel_rfl) (fun c b w => hQ c b _ _ w) (Or.inl ⟨by rfl, ?_⟩) (by assumption) ?_
  rotate_left
  · intro w hSw; (try dsimp only at hSw); go_simp; with_reducible rfl
  simp only [Act.put, List.setIfInBounds_toArray, List.set_cons_zero, List.set_cons_succ]
  refine wpAnyH_take (i := 12) (v := ?_) (getS (getS (getS (getS (getS (getS (getS (getS (getS (getS (getS (getS getZ)))))))))))) (by kernel_rfl) (by kernel_rfl) (by kernel_rfl) (fun c b w => hQ c b _ _ w) (Or.inl ⟨by rfl, ?_⟩) (by assumption) ?_
  rotate_left
  · intro w hSw; (try dsimp only at hSw); go_simp; with_reducible rfl
  simp only [Act.put, List.setIfInBounds_toArray, List.set_cons_zero, List.set_cons_succ]
  refine wpAnyH_take (i := 13) (v := ?_) (getS (getS (getS (getS (getS (getS (getS (getS (getS (getS (getS (getS (getS getZ))))))))))))) (by kernel_rfl) (by kernel_rfl) (by kernel_rfl) (fun c b w => hQ c b _ _ w) (Or.inl ⟨by rfl, ?_⟩) (by assumption) ?_
  rotate_left
  · intro w hSw; (try dsimp only at hSw); go_simp; with_reducible rfl
  simp only [Act.put, List.setIfInBounds_toArray, List.set_cons_zero, List.set_cons_succ]
  refine wpAnyH_take (i := 14) (v := ?_) (getS (getS (getS (getS (getS (getS (getS (getS (getS (getS (getS (getS (getS (getS getZ)))))))))))))) (by kernel_rfl) (by kernel_rfl) (by kernel_rfl) (fun c b w => hQ c b _ _ w) (Or.inl ⟨by rfl, ?_⟩) (by assumption) ?_
  rotate_left
  · intro w hSw; (try dsimp only at hSw); go_simp; with_reducible rfl
  simp only [Act.put, List.setIfInBounds_toArray, List.set_cons_zero, List.set_cons_succ]
  refine wpAnyH_take (i := 15) (v := ?_) (getS (getS (getS (getS (getS (getS (getS (getS (getS (getS (getS (getS (getS (getS (getS getZ))))))))))))))) (by kernel_rfl) (by kernel_rfl) (by kernel_rfl) (fun c b w => hQ c b _ _ w) (Or.inl ⟨by rfl, ?_⟩) (by assumption) ?_
  rotate_left
  · intro w hSw; (try dsimp only at hSw); go_simp; with_reducible rfl
  simp only [Act.put, List.setIfInBounds_toArray, List.set_cons_zero, List.set_cons_succ]
  refine wpAnyH_take (i := 16) (v := ?_) (getS (getS (getS (getS (getS (getS (getS (getS (getS (getS (getS (getS (getS (getS (getS (getS getZ)))))))))))))))) (by kernel_rfl) (by kernel_rfl) (by kernel_rfl) (fun c b w => hQ c b _ _ w) (Or.inl ⟨by rfl, ?_⟩) (by assumption) ?_
  rotate_left
  · intro w hSw; (try dsimp only at hSw); go_simp; with_reducible rfl
  simp only [Act.put, List.setIfInBounds_toArray, List.set_cons_zero, List.set_cons_succ]
  refine wpAnyH_take (i := 17) (v := ?_) (getS (getS (getS (getS (getS (getS (getS (getS (getS (getS (getS (getS (getS (getS (getS (getS (getS getZ))))))))))))))))) (by kernel_rfl) (by kernel_rfl) (by kernel_rfl) (fun c b w => hQ c b _ _ w) (Or.inl ⟨by rfl, ?_⟩) (by assumption) ?_
  rotate_left
  · intro w hSw; (try dsimp only at hSw); go_simp; with_reducible rfl
  simp only [Act.put, List.setIfInBounds_toArray, List.set_cons_zero, List.set_cons_succ]
  refine wpAnyH_take (i := 18) (v := ?_) (getS (getS (getS (getS (getS (getS (getS (getS (getS (getS (getS (getS (getS (getS (getS (getS (getS (getS getZ)))))))))))))))))) (by kernel_rfl) (by kernel_rfl) (by kernel_rfl) (fun c b w => hQ c b _ _ w) (Or.inl ⟨by rfl, ?_⟩) (by assumption) ?_
  rotate_left
  · intro w hSw; (try dsimp only at hSw); go_simp; with_reducible rfl
  simp only [Act.put, List.setIfInBounds_toArray, List.set_cons_zero, List.set_cons_succ]
  refine wpAnyH_take (i := 19) (v := ?_) (getS (getS (getS (getS (getS (getS (getS (getS (getS (getS (getS (getS (getS (getS (getS (getS (getS (getS (getS getZ))))))))))))))))))) (by kernel_rfl) (by kernel_rfl) (by kernel_rfl) (fun c b w => hQ c b _ _ w) (Or.inl ⟨by rfl, ?_⟩) (by assumption) ?_
  rotate_left
  · intro w hSw; (try dsimp only at hSw); go_simp; with_reducible rfl
  simp only [Act.put, List.setIfInBounds_toArray, List.set_cons_zero, List.set_cons_succ]
  refine wpAnyH_take (i := 20) (v := ?_) (getS (getS (getS (getS (getS (getS (getS (getS (getS (getS (getS (getS (getS (getS (getS (getS (getS (getS (getS (getS getZ)))))))))))))))))))) (by kernel_rfl) (by kernel_rfl) (by kernel_rfl) (fun c b w => hQ c b _ _ w) (Or.inl ⟨by rfl, ?_⟩) (by assumption) ?_
  rotate_left
  · intro w hSw; (try dsimp only at hSw); go_simp; with_reducible rfl
  simp only [Act.put, List.setIfInBounds_toArray, List.set_cons_zero, List.set_cons_succ]
  refine wpAnyH_take (i := 21) (v := ?_) (getS (getS (getS (getS (getS (getS (getS (getS (getS (getS (getS (getS (getS (getS (getS (getS (getS (getS (getS (getS (getS getZ))))))))))))))))))))) (by kernel_rfl) (by kernel_rfl) (by kernel_rfl) (fun c b w => hQ c b _ _ w) (Or.inl ⟨by rfl, ?_⟩) (by assumption) ?_
  rotate_left
  · intro w hSw; (try dsimp only at hSw); go_simp; with_reducible rfl
  simp only [Act.put, List.setIfInBounds_toArray, List.set_cons_zero, List.set_cons_succ]
  refine wpAnyH_take (i := 22) (v := ?_) (getS (getS (getS (getS (getS (getS (getS (getS (getS (getS (getS (getS (getS (getS (getS (getS (getS (getS (getS (getS (getS (getS getZ)))))))))))))))))))))) (by kernel_rfl) (by kernel_rfl) (by kernel_rfl) (fun c b w => hQ c b _ _ w) (Or.inl ⟨by rfl, ?_⟩) (by assumption) ?_
  rotate_left
  · intro w hSw; (try dsimp only at hSw); go_simp; with_reducible rfl
  simp only [Act.put, List.setIfInBounds_toArray, List.set_cons_zero, List.set_cons_succ]
  refine wpAnyH_take (i := 23) (v := ?_) (getS (getS (getS (getS (getS (getS (getS (getS (getS (getS (getS (getS (getS (getS (getS (getS (getS (getS (getS (getS (getS (getS (getS getZ))))))))))))))))))))))) (by kernel_rfl) (by kernel_rfl) (by kernel_rfl) (fun c b w => hQ c b _ _ w) (Or.inl ⟨by rfl, ?_⟩) (by assumption) ?_
  rotate_left
  · intro w hSw; (try dsimp only at hSw); go_simp; with_reducible rfl
  simp only [Act.put, List.setIfInBounds_toArray, List.set_cons_zero, List.set_cons_succ]
  refine wpAnyH_take (i := 24) (v := ?_) (getS (getS (getS (getS (getS (getS (getS (getS (getS (getS (getS (getS (getS (getS (getS (getS (getS (getS (getS (getS (getS (getS (getS (getS getZ)))))))))))))))))))))))) (by kernel_rfl) (by kernel_rfl) (by kernel_rfl) (fun c b w => hQ c b _ _ w) (Or.inl ⟨by rfl, ?_⟩) (by assumption) ?_
  rotate_left
  · intro w hSw; (try dsimp only at hSw); go_simp; with_reducible rfl
  simp only [Act.put, List.setIfInBounds_toArray, List.set_cons_zero, List.set_cons_succ]
  refine wpAnyH_take (i := 25) (v := ?_) (getS (getS (getS (getS (getS (getS (getS (getS (getS (getS (getS (getS (getS (getS (getS (getS (getS (getS (getS (getS (getS (getS (getS (getS (getS getZ))))))))))))))))))))))))) (by kernel_rfl) (by kernel_rfl) (by kernel_rfl) (fun c b w => hQ c b _ _ w) (Or.inl ⟨by rfl, ?_⟩) (by assumption) ?_
  rotate_left
  · intro w hSw; (try dsimp only at hSw); go_simp; with_reducible rfl
  simp only [Act.put, List.setIfInBounds_toArray, List.set_cons_zero, List.set_cons_succ]
  refine wpAnyH_ready (rs := [4, 26]) (by kernel_rfl) (by simp) ?_
  refine AllReadyH.cons (getS (getS (getS (getS getZ)))) (fun K hK => ?_) ?_
  · go_simp
    refine hK.out _ _ ?_ (fun hHeld => ?_)
    · go_keep
    clear hK K
    skip
    refine wpAnyH_ready (rs := [26]) (by kernel_rfl) (by simp) ?_
    refine AllReadyH.cons (getS (getS (getS (getS (getS (getS (getS (getS (getS (getS (getS (getS (getS (getS (getS (getS (getS (getS (getS (getS (getS (getS (getS (getS (getS (getS getZ)))))))))))))))))))))))))) (fun K hK => ?_) AllReadyH.nil
    go_simp
    refine hK.out _ _ ?_ (fun hHeld => ?_)
    · go_keep
    clear hK K
    skip
    refine wpAnyH_ready (rs := [27]) (by kernel_rfl) (by simp) ?_
    refine AllReadyH.cons (getS (getS (getS (getS (getS (getS (getS (getS (getS (getS (getS (getS (getS (getS (getS (getS (getS (getS (getS (getS (getS (getS (getS (getS (getS (getS (getS getZ))))))))))))))))))))))))))) (fun K hK => ?_) AllReadyH.nil
    refine step_app rfl (.tmp 185) (.tmp 207) 53 rfl (P + 2) 67 i0 (.agg #[.int .i64 0, .int .i64 0, .bool false, .int .i64 0, .int .i64 0]) 5 40 Try.underlying53 hi hz0 hz1 hz2 rfl (by decide) (.slice al nl cl) nl xk rfl HW.out ⟨w.heap.size, 0, none⟩ 1 [.int .i64 mn, .int .i64 mx, .bool gr, .int .i64 g, .int .i64 gs] rfl rfl HL.out (oneCell_loop _ _ _ _ _) (by unfold maxLen; omega) (by omega) HS.out ?_
    intro g' cap' w2 ho1 ha
    have HO := HH.out g' cap' w2 ho1 ha
    obtain ⟨q0, qf, HO⟩ := HO
    clear ho1 ha
    have hn3 := HO.out.node hP HA.out
    have hn2 := hn3
    rw [Below.heap_setCell _ _ _ _ (by simpa using hax)] at hn2
    refine hK.out _ _ ?_ (fun hHeld => ?_)
    · exact ⟨row_cell hn2 rfl, row_cell hn2 rfl, row_cell hn2 rfl, row_cell hn2 rfl, row_cell hn2 rfl⟩
    clear hK K
    simp only [Act.put, List.setIfInBounds_toArray, List.set_cons_zero, List.set_cons_succ]
    refine wpAnyH_take (i := 28) (v := ?_) (getS (getS (getS (getS (getS (getS (getS (getS (getS (getS (getS (getS (getS (getS (getS (getS (getS (getS (getS (getS (getS (getS (getS (getS (getS (getS (getS (getS getZ)))))))))))))))))))))))))))) (by kernel_rfl) (by kernel_rfl) (by kernel_rfl) (fun c b w => hQ c b _ _ w) (Or.inl ⟨by rfl, ?_⟩) (by assumption) ?_
    rotate_left
    · intro w hSw; (try dsimp only at hSw); go_simp; with_reducible rfl
    simp only [Act.put, List.setIfInBounds_toArray, List.set_cons_zero, List.set_cons_succ]
    refine wpAnyH_take (i := 29) (v := ?_) (getS (getS (getS (getS (getS (getS (getS (getS (getS (getS (getS (getS (getS (getS (getS (getS (getS (getS (getS (getS (getS (getS (getS (getS (getS (getS (getS (getS (getS getZ))))))))))))))))))))))))))))) (by kernel_rfl) (by kernel_rfl) (by kernel_rfl) (fun c b w => hQ c b _ _ w) (Or.inl ⟨by rfl, ?_⟩) (by assumption) ?_
    rotate_left
    · intro w hSw; (try dsimp only at hSw); go_simp; with_reducible rfl
    simp only [Act.put, List.setIfInBounds_toArray, List.set_cons_zero, List.set_cons_succ]
    refine wpAnyH_ready (rs := [30]) (by kernel_rfl) (by simp) ?_
    refine AllReadyH.cons (getS (getS (getS (getS (getS (getS (getS (getS (getS (getS (getS (getS (getS (getS (getS (getS (getS (getS (getS (getS (getS (getS (getS (getS (getS (getS (getS (getS (getS (getS getZ)))))))))))))))))))))))))))))) (fun K hK => ?_) AllReadyH.nil
    go_simp
    refine hK.out _ _ ?_ (fun hHeld => ?_)
    · exact ⟨row_cell hn3 rfl, row_cell hn3 rfl, row_cell hn3 rfl, row_cell hn3 rfl, row_cell hn3 rfl⟩
    clear hK K
    skip
    exact wpAnyH_done (by kernel_rfl) (HN.out _ _ _ _ _ _ _ _ _ _ _ _ _ _ _ _ _ _ _ _ _ _ _ _ _ _ _ _ _ _ _ HO) _
  refine AllReadyH.cons (getS (getS (getS (getS (getS (getS (getS (getS (getS (getS (getS (getS (getS (getS (getS (getS (getS (getS (getS (getS (getS (getS (getS (getS (getS (getS getZ)))))))))))))))))))))))))) (fun K hK => ?_) AllReadyH.nil
  · go_simp
    refine hK.out _ _ ?_ (fun hHeld => ?_)
    · go_keep
    clear hK K
    skip
    refine wpAnyH_ready (rs := [4]) (by kernel_rfl) (by simp) ?_
    refine AllReadyH.cons (getS (getS (getS (getS getZ)))) (fun K hK => ?_) AllReadyH.nil
    go_simp
    refine hK.out _ _ ?_ (fun hHeld => ?_)
    · go_keep
    clear hK K
    skip
    refine wpAnyH_ready (rs := [27]) (by kernel_rfl) (by simp) ?_
    refine AllReadyH.cons (getS (getS (getS (getS (getS (getS (getS (getS (getS (getS (getS (getS (getS (getS (getS (getS (getS (getS (getS (getS (getS (getS (getS (getS (getS (getS (getS getZ))))))))))))))))))))))))))) (fun K hK => ?_) AllReadyH.nil
    refine step_app rfl (.tmp 185) (.tmp 207) 53 rfl (P + 2) 67 i0 (.agg #[.int .i64 0, .int .i64 0, .bool false, .int .i64 0, .int .i64 0]) 5 40 Try.underlying53 hi hz0 hz1 hz2 rfl (by decide) (.slice al nl cl) nl xk rfl HW.out ⟨w.heap.size, 0, none⟩ 1 [.int .i64 mn, .int .i64 mx, .bool gr, .int .i64 g, .int .i64 gs] rfl rfl HL.out (oneCell_loop _ _ _ _ _) (by unfold maxLen; omega) (by omega) HS.out ?_
    intro g' cap' w2 ho1 ha
    have HO := HH.out g' cap' w2 ho1 ha
    obtain ⟨q0, qf, HO⟩ := HO
    clear ho1 ha
    have hn3 := HO.out.node hP HA.out
    have hn2 := hn3
    rw [Below.heap_setCell _ _ _ _ (by simpa using hax)] at hn2
    refine hK.out _ _ ?_ (fun hHeld => ?_)
    · exact ⟨row_cell hn2 rfl, row_cell hn2 rfl, row_cell hn2 rfl, row_cell hn2 rfl, row_cell hn2 rfl⟩
    clear hK K
    simp only [Act.put, List.setIfInBounds_toArray, List.set_cons_zero, List.set_cons_succ]
    refine wpAnyH_take (i := 28) (v := ?_) (getS (getS (getS (getS (getS (getS (getS (getS (getS (getS (getS (getS (getS (getS (getS (getS (getS (getS (getS (getS (getS (getS (getS (getS (getS (getS (getS (getS getZ)))))))))))))))))))))))))))) (by kernel_rfl) (by kernel_rfl) (by kernel_rfl) (fun c b w => hQ c b _ _ w) (Or.inl ⟨by rfl, ?_⟩) (by assumption) ?_
    rotate_left
    · intro w hSw; (try dsimp only at hSw); go_simp; with_reducible rfl
    simp only [Act.put, List.setIfInBounds_toArray, List.set_cons_zero, List.set_cons_succ]
    refine wpAnyH_take (i := 29) (v := ?_) (getS (getS (getS (getS (getS (getS (getS (getS (getS (getS (getS (getS (getS (getS (getS (getS (getS (getS (getS (getS (getS (getS (getS (getS (getS (getS (getS (getS (getS getZ))))))))))))))))))))))))))))) (by kernel_rfl) (by kernel_rfl) (by kernel_rfl) (fun c b w => hQ c b _ _ w) (Or.inl ⟨by rfl, ?_⟩) (by assumption) ?_
    rotate_left
    · intro w hSw; (try dsimp only at hSw); go_simp; with_reducible rfl
    simp only [Act.put, List.setIfInBounds_toArray, List.set_cons_zero, List.set_cons_succ]
    refine wpAnyH_ready (rs := [30]) (by kernel_rfl) (by simp) ?_
    refine AllReadyH.cons (getS (getS (getS (getS (getS (getS (getS (getS (getS (getS (getS (getS (getS (getS (getS (getS (getS (getS (getS (getS (getS (getS (getS (getS (getS (getS (getS (getS (getS (getS getZ)))))))))))))))))))))))))))))) (fun K hK => ?_) AllReadyH.nil
    go_simp
    refine hK.out _ _ ?_ (fun hHeld => ?_)
    · exact ⟨row_cell hn3 rfl, row_cell hn3 rfl, row_cell hn3 rfl, row_cell hn3 rfl, row_cell hn3 rfl⟩
    clear hK K
    skip
    exact wpAnyH_done (by kernel_rfl) (HN.out _ _ _ _ _ _ _ _ _ _ _ _ _ _ _ _ _ _ _ _ _ _ _ _ _ _ _ _ _ _ _ HO) _
end Go.Proofs.Qxb6001165a
