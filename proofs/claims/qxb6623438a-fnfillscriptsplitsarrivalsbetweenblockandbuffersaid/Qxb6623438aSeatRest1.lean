/- Seat b6623438a: the walk's second part: the copies are made. -/
import Derived.Test.Qxb6623438aSeatRest2
namespace Go.Proofs.Qxb6623438a.Seat
open Go.RowKit

set_option linter.unusedVariables false
set_option maxRecDepth 100000 in
set_option maxHeartbeats 4000000 in
theorem rest1n (a0 a6 a10 : Option Addr) (n0 c0 n6 c6 m c10 bl : Nat) (i2 i3 i4 i5 i7 i8 : Int) (Z0 Z6 : Nat → Int) (A : Nat → Option Addr) (L C : Nat → Nat) (Zw : Nat → Nat → Int) (N : Nat → Int) (w : World)
    (hn0 : n0 ≤ 1048576) (hn6 : n6 ≤ 1048576) (h0 : 0 ≤ 1048576) (hn10 : m ≤ 1048576) (hSm : Small L 0) (hb7 : 0 ≤ i7) (hb7' : i7 ≤ 9223372036854775807) (hbl : bl ≤ n0)
    (hI : InRoom N ((n0 : Int) + n6) m) (hps : ps N m ≤ (n0 : Int) + n6) (hX : NoCross i7 n6 N m)
    (e6 : a6 = none → n6 = 0 ∧ c6 = 0) (eA : ∀ j, j < 0 → A j = none → L j = 0 ∧ C j = 0)
    (r0 : Row w a0 n0 (u8 Z0)) (r6 : Row w a6 n6 (u8 Z6)) (r9 : Row w none 0 (words A L C)) (r10 : Row w a10 m (i64s N)) (rw9 : ∀ j, j < 0 → Row w (A j) (L j) (u8 (Zw j)))
    (u11 u12 u13 u14 u15 u16 u17 u18 u19 u20 u21 u22 u23 u24 u25 u27 u28 u30 u31 u32 u33 u34 u35 u36 u37 u38 u39 u40 u41 u42 u43 u44 u45 u46 u47 u48 u49 u50 u51 u52 u53 u54 u55 u56 u57 u58 u59 u60 u61 u62 u63 u64 u65 u66 u67 u68 u69 u70 u71 u72 u73 u74 u75 u76 u77 u78 u79 u80 u81 u82 u83 u84 u85 u86 u87 u88 u89 u90 u91 u92 u93 u94 u95 u96 u97 u98 u99 u100 u101 u102 u103 u104 u105 u106 u107 u108 u109 u110 u111 u112 u113 u114 u115 u116 u117 u118 u119 u120 u121 u122 u123 u124 u125 u126 u127 u128 u129 u130 u131 u132 u133 u134 u135 u136 u137 u138 u139 u140 u141 u142 u143 u144 u145 u146 u147 u148 u149 u150 u151 u152 u153 u154 u155 u156 u157 u158 u159 u160 u161 u162 u163 u164 u165 u166 u167 u168 u169 u170 u171 u172 u173 u174 u175 u176 u177 u178 u179 u180 u181 u182 u183 u184 u185 u186 u187 u188 u189 u190 u191 u192 u193 u194 u195 u196 u197 u198 u199 u200 u201 u202 u203 u204 u205 u206 u207 u208 u209 u210 u211 u212 u213 u214 u215 u216 u217 u218 u219 u220 u221 u222 u223 u224 u225 u226 u227 u228 u229 u230 u231 u232 u233 u234 u235 u236 u237 u238 u239 u240 u241 u242 u243 u244 u245 u246 u247 u248 u249 u250 u251 u252 u253 u254 u255 u256 u257 u258 u259 u260 u261 u262 u263 u264 u265 u266 u267 u268 u269 u270 u271 u272 u273 u274 u275 u276 u277 u278 u279 u280 u281 u282 u283 u284 u285 u286 u287 u288 u289 u290 u291 u292 u293 u294 u295 u296 u297 u298 u299 u300 u301 u302 u303 u304 u305 u306 u307 u308 u309 u310 u311 u312 u313 u314 u315 u316 u317 u318 u319 u320 u321 u322 u323 u324 u325 u326 u327 u328 u329 u330 u331 u332 u333 u334 u335 u336 u337 u338 : Value) :
    Code.wp Try.prog (tail 21 (Try.f3.body.getD .skip)) (bodyPost Try.prog Try.f3 fun e w' => e = .returned (.bool true) ∧ Below w.heap.size w w') ⟨#[.slice a0 n0 c0, .int .i64 bl, .int .i64 i2, .int .i64 i3, .int .i64 i4, .int .i64 i5, .slice a6 n6 c6, .int .i64 i7, .int .i64 i8, .slice none 0 0, .slice a10 m c10, u11, u12, u13, u14, u15, u16, u17, u18, u19, u20, u21, u22, u23, u24, u25, .int .i64 (ps N m), u27, u28, .int .i64 (blk i7 n6 (ps N m)), u30, u31, u32, u33, u34, u35, u36, u37, u38, u39, u40, u41, u42, u43, u44, u45, u46, u47, u48, u49, u50, u51, u52, u53, u54, u55, u56, u57, u58, u59, u60, u61, u62, u63, u64, u65, u66, u67, u68, u69, u70, u71, u72, u73, u74, u75, u76, u77, u78, u79, u80, u81, u82, u83, u84, u85, u86, u87, u88, u89, u90, u91, u92, u93, u94, u95, u96, u97, u98, u99, u100, u101, u102, u103, u104, u105, u106, u107, u108, u109, u110, u111, u112, u113, u114, u115, u116, u117, u118, u119, u120, u121, u122, u123, u124, u125, u126, u127, u128, u129, u130, u131, u132, u133, u134, u135, u136, u137, u138, u139, u140, u141, u142, u143, u144, u145, u146, u147, u148, u149, u150, u151, u152, u153, u154, u155, u156, u157, u158, u159, u160, u161, u162, u163, u164, u165, u166, u167, u168, u169, u170, u171, u172, u173, u174, u175, u176, u177, u178, u179, u180, u181, u182, u183, u184, u185, u186, u187, u188, u189, u190, u191, u192, u193, u194, u195, u196, u197, u198, u199, u200, u201, u202, u203, u204, u205, u206, u207, u208, u209, u210, u211, u212, u213, u214, u215, u216, u217, u218, u219, u220, u221, u222, u223, u224, u225, u226, u227, u228, u229, u230, u231, u232, u233, u234, u235, u236, u237, u238, u239, u240, u241, u242, u243, u244, u245, u246, u247, u248, u249, u250, u251, u252, u253, u254, u255, u256, u257, u258, u259, u260, u261, u262, u263, u264, u265, u266, u267, u268, u269, u270, u271, u272, u273, u274, u275, u276, u277, u278, u279, u280, u281, u282, u283, u284, u285, u286, u287, u288, u289, u290, u291, u292, u293, u294, u295, u296, u297, u298, u299, u300, u301, u302, u303, u304, u305, u306, u307, u308, u309, u310, u311, u312, u313, u314, u315, u316, u317, u318, u319, u320, u321, u322, u323, u324, u325, u326, u327, u328, u329, u330, u331, u332, u333, u334, u335, u336, u337, u338], []⟩ w := by
  have hNn : ∀ j, j < m → 0 ≤ N j := fun j hj => (hI j hj).1
  have hp0 := ps_nonneg N m hNn m (Nat.le_refl _)
  have hbd := blk_bd i7 n6 (ps N m) hp0
  obtain ⟨hb0, hb1, hb2, hb3⟩ := hbd
  have hmk := run_make_row' (P := Try.prog) 22 5 (.int .u8 0) 1 Try.underlying22 info5 rfl .i64 .i64 n0 (by omega) (by omega)
  have hmk9 := run_make_row' (P := Try.prog) 23 22 (.slice none 0 0) 24 Try.underlying23 info22 rfl .i64 .i64 0 (by omega) (by omega)
  obtain ⟨W1, hcp, hr1, hbl1⟩ := copy_new w a0 n0 c0 Z0 r0
  have HR1 := hidm hr1
  have HI := hidm hI
  have HX := hidm hX
  have R0 := hidm r0
  have R6 := hidm r6
  have R9 := hidm r9
  have R10 := hidm r10
  have RW := hidm rw9
  have HS := hidm hSm
  have E6 := hidm e6
  have EA := hidm eA
  have hnil9 := neNil23
  clear hr1 hI hX r0 r6 r9 r10 rw9 hSm e6 eA hNn hb2 hb3
  conv => arg 2; whnf
  by_cases hov : (n0 : Int) < bl + (ps N m - blk i7 n6 (ps N m))
  · go_wp2
    go_ret; exact ⟨rfl, Below.refl _ _⟩
  have HOV := hidm hov
  go_wp2_with fail
  refine (clone_any a6 n6 c6 Z6 W1 (by omega) E6.out (R6.out.below hbl1)).mono ?_
  rintro e w2 ⟨ca, cc, rfl, hcn, hcl, hbl2⟩
  have HCL := hidm hcl
  have HCN := hidm hcn
  clear hcl hcn hcp hmk
  have hw2 : w.heap.size < w2.heap.size := Nat.lt_of_lt_of_le HR1.out.lt hbl2.size
  have HR2 := hidm (rowIs_below HR1.out hbl2 HR1.out.lt)
  have hblw : Below w.heap.size w w2 := hbl1.trans (hbl2.mono hbl1.size)
  clear hbl1 hbl2 HR1
  go_upto_if 204 with fail
  go_step
  go_step
  go_step
  go_step
  exact rest2 a0 a6 none a10 ca none n0 c0 n6 c6 0 0 m c10 bl w.heap.size cc 0 i2 i3 i4 i5 i7 i8 Z0 Z6 A L C Zw N w w2 hblw HR2.out hn0 hn6 h0 hn10 HS.out hb7 hb7' HI.out HX.out (by have := HOV.out; omega) HCN.out HCL.out.row ⟨rfl, Or.inl rfl⟩ R0.out R6.out R9.out R10.out RW.out _ _ _ _ _ _ _ _ _ _ _ _ _ _ _ _ _ _ _ _ _ _ _ _ _ _ _ _ _ _ _ _ _ _ _ _ _ _ _ _ _ _ _ _ _ _ _ _ _ _ _ _ _ _ _ _ _ _ _ _ _ _ _ _ _ _ _ _ _ _ _ _ _ _ _ _ _ _ _ _ _ _ _ _ _ _ _ _ _ _ _ _ _ _ _ _ _ _ _ _ _ _ _ _ _ _ _ _ _ _ _ _ _ _ _ _ _ _ _ _ _ _ _ _ _ _ _ _ _ _ _ _ _ _ _ _ _ _ _ _ _ _ _ _ _ _ _ _ _ _ _ _ _ _ _ _ _ _ _ _ _ _ _ _ _ _ _ _ _ _ _ _ _ _ _ _ _ _ _ _ _ _ _ _ _ _ _ _ _ _ _ _ _ _ _ _ _ _ _ _ _ _ _ _ _ _ _ _ _ _ _ _ _ _ _ _ _ _ _ _ _ _ _ _ _ _ _ _ _ _ _ _ _ _ _ _ _ _ _ _ _ _ _ _ _ _ _ _ _ _ _ _ _ _ _ _ _ _ _ _ _ _ _ _ _ _ _ _ _ _ _ _ _ _ _ _ _ _ _ _ _ _ _ _ _ _ _ _ _ _ _ _ _ _ _ _ _ _ _ _ _ _ _ _ _ _ _ _ _ _ _ _ _ _ _ _ _ _ _ _ _ _ _


set_option linter.unusedVariables false
set_option maxRecDepth 100000 in
set_option maxHeartbeats 4000000 in
theorem rest1s (ad9 : Addr) (a0 a6 a10 : Option Addr) (n0 c0 n6 c6 n9 c9 m c10 bl : Nat) (i2 i3 i4 i5 i7 i8 : Int) (Z0 Z6 : Nat → Int) (A : Nat → Option Addr) (L C : Nat → Nat) (Zw : Nat → Nat → Int) (N : Nat → Int) (w : World)
    (hn0 : n0 ≤ 1048576) (hn6 : n6 ≤ 1048576) (hn9 : n9 ≤ 1048576) (hn10 : m ≤ 1048576) (hSm : Small L n9) (hb7 : 0 ≤ i7) (hb7' : i7 ≤ 9223372036854775807) (hbl : bl ≤ n0)
    (hI : InRoom N ((n0 : Int) + n6) m) (hps : ps N m ≤ (n0 : Int) + n6) (hX : NoCross i7 n6 N m)
    (e6 : a6 = none → n6 = 0 ∧ c6 = 0) (eA : ∀ j, j < n9 → A j = none → L j = 0 ∧ C j = 0)
    (r0 : Row w a0 n0 (u8 Z0)) (r6 : Row w a6 n6 (u8 Z6)) (r9 : Row w (some ad9) n9 (words A L C)) (r10 : Row w a10 m (i64s N)) (rw9 : ∀ j, j < n9 → Row w (A j) (L j) (u8 (Zw j)))
    (u11 u12 u13 u14 u15 u16 u17 u18 u19 u20 u21 u22 u23 u24 u25 u27 u28 u30 u31 u32 u33 u34 u35 u36 u37 u38 u39 u40 u41 u42 u43 u44 u45 u46 u47 u48 u49 u50 u51 u52 u53 u54 u55 u56 u57 u58 u59 u60 u61 u62 u63 u64 u65 u66 u67 u68 u69 u70 u71 u72 u73 u74 u75 u76 u77 u78 u79 u80 u81 u82 u83 u84 u85 u86 u87 u88 u89 u90 u91 u92 u93 u94 u95 u96 u97 u98 u99 u100 u101 u102 u103 u104 u105 u106 u107 u108 u109 u110 u111 u112 u113 u114 u115 u116 u117 u118 u119 u120 u121 u122 u123 u124 u125 u126 u127 u128 u129 u130 u131 u132 u133 u134 u135 u136 u137 u138 u139 u140 u141 u142 u143 u144 u145 u146 u147 u148 u149 u150 u151 u152 u153 u154 u155 u156 u157 u158 u159 u160 u161 u162 u163 u164 u165 u166 u167 u168 u169 u170 u171 u172 u173 u174 u175 u176 u177 u178 u179 u180 u181 u182 u183 u184 u185 u186 u187 u188 u189 u190 u191 u192 u193 u194 u195 u196 u197 u198 u199 u200 u201 u202 u203 u204 u205 u206 u207 u208 u209 u210 u211 u212 u213 u214 u215 u216 u217 u218 u219 u220 u221 u222 u223 u224 u225 u226 u227 u228 u229 u230 u231 u232 u233 u234 u235 u236 u237 u238 u239 u240 u241 u242 u243 u244 u245 u246 u247 u248 u249 u250 u251 u252 u253 u254 u255 u256 u257 u258 u259 u260 u261 u262 u263 u264 u265 u266 u267 u268 u269 u270 u271 u272 u273 u274 u275 u276 u277 u278 u279 u280 u281 u282 u283 u284 u285 u286 u287 u288 u289 u290 u291 u292 u293 u294 u295 u296 u297 u298 u299 u300 u301 u302 u303 u304 u305 u306 u307 u308 u309 u310 u311 u312 u313 u314 u315 u316 u317 u318 u319 u320 u321 u322 u323 u324 u325 u326 u327 u328 u329 u330 u331 u332 u333 u334 u335 u336 u337 u338 : Value) :
    Code.wp Try.prog (tail 21 (Try.f3.body.getD .skip)) (bodyPost Try.prog Try.f3 fun e w' => e = .returned (.bool true) ∧ Below w.heap.size w w') ⟨#[.slice a0 n0 c0, .int .i64 bl, .int .i64 i2, .int .i64 i3, .int .i64 i4, .int .i64 i5, .slice a6 n6 c6, .int .i64 i7, .int .i64 i8, .slice (some ad9) n9 c9, .slice a10 m c10, u11, u12, u13, u14, u15, u16, u17, u18, u19, u20, u21, u22, u23, u24, u25, .int .i64 (ps N m), u27, u28, .int .i64 (blk i7 n6 (ps N m)), u30, u31, u32, u33, u34, u35, u36, u37, u38, u39, u40, u41, u42, u43, u44, u45, u46, u47, u48, u49, u50, u51, u52, u53, u54, u55, u56, u57, u58, u59, u60, u61, u62, u63, u64, u65, u66, u67, u68, u69, u70, u71, u72, u73, u74, u75, u76, u77, u78, u79, u80, u81, u82, u83, u84, u85, u86, u87, u88, u89, u90, u91, u92, u93, u94, u95, u96, u97, u98, u99, u100, u101, u102, u103, u104, u105, u106, u107, u108, u109, u110, u111, u112, u113, u114, u115, u116, u117, u118, u119, u120, u121, u122, u123, u124, u125, u126, u127, u128, u129, u130, u131, u132, u133, u134, u135, u136, u137, u138, u139, u140, u141, u142, u143, u144, u145, u146, u147, u148, u149, u150, u151, u152, u153, u154, u155, u156, u157, u158, u159, u160, u161, u162, u163, u164, u165, u166, u167, u168, u169, u170, u171, u172, u173, u174, u175, u176, u177, u178, u179, u180, u181, u182, u183, u184, u185, u186, u187, u188, u189, u190, u191, u192, u193, u194, u195, u196, u197, u198, u199, u200, u201, u202, u203, u204, u205, u206, u207, u208, u209, u210, u211, u212, u213, u214, u215, u216, u217, u218, u219, u220, u221, u222, u223, u224, u225, u226, u227, u228, u229, u230, u231, u232, u233, u234, u235, u236, u237, u238, u239, u240, u241, u242, u243, u244, u245, u246, u247, u248, u249, u250, u251, u252, u253, u254, u255, u256, u257, u258, u259, u260, u261, u262, u263, u264, u265, u266, u267, u268, u269, u270, u271, u272, u273, u274, u275, u276, u277, u278, u279, u280, u281, u282, u283, u284, u285, u286, u287, u288, u289, u290, u291, u292, u293, u294, u295, u296, u297, u298, u299, u300, u301, u302, u303, u304, u305, u306, u307, u308, u309, u310, u311, u312, u313, u314, u315, u316, u317, u318, u319, u320, u321, u322, u323, u324, u325, u326, u327, u328, u329, u330, u331, u332, u333, u334, u335, u336, u337, u338], []⟩ w := by
  have hNn : ∀ j, j < m → 0 ≤ N j := fun j hj => (hI j hj).1
  have hp0 := ps_nonneg N m hNn m (Nat.le_refl _)
  have hbd := blk_bd i7 n6 (ps N m) hp0
  obtain ⟨hb0, hb1, hb2, hb3⟩ := hbd
  have hmk := run_make_row' (P := Try.prog) 22 5 (.int .u8 0) 1 Try.underlying22 info5 rfl .i64 .i64 n0 (by omega) (by omega)
  have hmk9 := run_make_row' (P := Try.prog) 23 22 (.slice none 0 0) 24 Try.underlying23 info22 rfl .i64 .i64 n9 (by omega) (by omega)
  obtain ⟨W1, hcp, hr1, hbl1⟩ := copy_new w a0 n0 c0 Z0 r0
  have HR1 := hidm hr1
  have HI := hidm hI
  have HX := hidm hX
  have R0 := hidm r0
  have R6 := hidm r6
  have R9 := hidm r9
  have R10 := hidm r10
  have RW := hidm rw9
  have HS := hidm hSm
  have E6 := hidm e6
  have EA := hidm eA
  have hnil9 := neNil23
  clear hr1 hI hX r0 r6 r9 r10 rw9 hSm e6 eA hNn hb2 hb3
  conv => arg 2; whnf
  by_cases hov : (n0 : Int) < bl + (ps N m - blk i7 n6 (ps N m))
  · go_wp2
    go_ret; exact ⟨rfl, Below.refl _ _⟩
  have HOV := hidm hov
  go_wp2_with fail
  refine (clone_any a6 n6 c6 Z6 W1 (by omega) E6.out (R6.out.below hbl1)).mono ?_
  rintro e w2 ⟨ca, cc, rfl, hcn, hcl, hbl2⟩
  have HCL := hidm hcl
  have HCN := hidm hcn
  clear hcl hcn hcp hmk
  have hw2 : w.heap.size < w2.heap.size := Nat.lt_of_lt_of_le HR1.out.lt hbl2.size
  have HR2 := hidm (rowIs_below HR1.out hbl2 HR1.out.lt)
  have hblw : Below w.heap.size w w2 := hbl1.trans (hbl2.mono hbl1.size)
  clear hbl1 hbl2 HR1
  go_wp2
  go_loopw [38] (fun i wr => ∃ k : Nat, k ≤ n9 ∧ i = .int .i64 k ∧ Hid (Clones wr w2.heap.size k A L Zw n9) ∧ Below w2.heap.size w2 wr) (fun i _ => n9 - (intOf i).toNat)
  case atStart => exact ⟨0, Nat.zero_le _, rfl, Clones.start (World.rowIs_made _ _ _ _), (Below.refl _ _).alloc (Nat.le_refl _) _⟩
  case round =>
    obtain ⟨j, hj, rfl, HK, hbr⟩ := hrel
    by_cases hjn : j < n9
    · rcases R9.out with hz | ⟨b, o, he, hb, hcell⟩
      · omega
      obtain rfl : ad9 = ⟨b, o, none⟩ := by simpa using he
      have hbw : Below w.heap.size w wr := hblw.trans (hbr.mono (Nat.le_of_lt hw2))
      have hcx : wr.cell? ⟨b, o + j, none⟩ = some (.slice (A j) (L j) (C j)) := (hbw.cell (by exact hb)).trans (hcell j hjn)
      have hfz : wr.frozen? ⟨w2.heap.size, j, none⟩ = false := by
        obtain ⟨_, _, hr, _⟩ := HK.out
        exact hr.frozen j
      have hrc : ∃ v, wr.cell? ⟨w2.heap.size, j, none⟩ = some v := by
        obtain ⟨_, _, hr, _⟩ := HK.out
        exact ⟨_, hr.cell hjn⟩
      obtain ⟨v, hrc⟩ := hrc
      have hGlt : w2.heap.size < wr.heap.size := HK.out.lt
      clear hcell
      go_wp2_with fail
      refine (clone_any (A j) (L j) (C j) (Zw j) wr (HS.out j hjn) (EA.out j hjn) ((RW.out j hjn).below hbw)).mono ?_
      rintro e w4 ⟨ca4, cc4, rfl, hcn4, hcl4, hbl4⟩
      have hfz4 : w4.frozen? ⟨w2.heap.size, j, none⟩ = false := (hbl4.frozen (by exact hGlt)).trans hfz
      have hrc4 : w4.cell? ⟨w2.heap.size, j, none⟩ = some v := (hbl4.cell (by exact hGlt)).trans hrc
      have HN := hidm (HK.out.next hbl4 ca4 cc4 hcn4 hcl4)
      have hb5 : Below w2.heap.size w2 w4 := hbr.trans (hbl4.mono hbr.size)
      clear hcn4 hcl4 hbl4 hfz hrc hcx hbr
      go_wp2
      go_roundw
      case rel => exact ⟨j + 1, by omega, by go_num, HN, hb5.setCell (Nat.le_refl _) _⟩
      case measure => simp [intOf]; omega
    · have hje : j = n9 := by omega
      subst hje
      go_upto_if 211 with fail
      go_step
      go_step
      go_step
      go_step
      go_step
      go_step
      exact rest2 a0 a6 (some ad9) a10 ca (some ⟨w2.heap.size, 0, none⟩) n0 c0 n6 c6 j c9 m c10 bl w.heap.size cc j i2 i3 i4 i5 i7 i8 Z0 Z6 A L C Zw N w wr (hblw.trans (hbr.mono (Nat.le_of_lt hw2))) (rowIs_below HR2.out hbr hw2) hn0 hn6 hn9 hn10 HS.out hb7 hb7' HI.out HX.out (by have := HOV.out; omega) HCN.out (HCL.out.below hbr).row ⟨rfl, Or.inr ⟨_, rfl, HK.out⟩⟩ R0.out R6.out R9.out R10.out RW.out _ _ _ _ _ _ _ _ _ _ _ _ _ _ _ _ _ _ _ _ _ _ _ _ _ _ _ _ _ _ _ _ _ _ _ _ _ _ _ _ _ _ _ _ _ _ _ _ _ _ _ _ _ _ _ _ _ _ _ _ _ _ _ _ _ _ _ _ _ _ _ _ _ _ _ _ _ _ _ _ _ _ _ _ _ _ _ _ _ _ _ _ _ _ _ _ _ _ _ _ _ _ _ _ _ _ _ _ _ _ _ _ _ _ _ _ _ _ _ _ _ _ _ _ _ _ _ _ _ _ _ _ _ _ _ _ _ _ _ _ _ _ _ _ _ _ _ _ _ _ _ _ _ _ _ _ _ _ _ _ _ _ _ _ _ _ _ _ _ _ _ _ _ _ _ _ _ _ _ _ _ _ _ _ _ _ _ _ _ _ _ _ _ _ _ _ _ _ _ _ _ _ _ _ _ _ _ _ _ _ _ _ _ _ _ _ _ _ _ _ _ _ _ _ _ _ _ _ _ _ _ _ _ _ _ _ _ _ _ _ _ _ _ _ _ _ _ _ _ _ _ _ _ _ _ _ _ _ _ _ _ _ _ _ _ _ _ _ _ _ _ _ _ _ _ _ _ _ _ _ _ _ _ _ _ _ _ _ _ _ _ _ _ _ _ _ _ _ _ _ _ _ _ _ _ _ _ _ _ _ _ _ _ _ _ _ _ _ _ _ _ _ _


/-- Both in one. -/
theorem rest1w (a0 a6 a9 a10 : Option Addr) (n0 c0 n6 c6 n9 c9 m c10 bl : Nat) (i2 i3 i4 i5 i7 i8 : Int) (Z0 Z6 : Nat → Int) (A : Nat → Option Addr) (L C : Nat → Nat) (Zw : Nat → Nat → Int) (N : Nat → Int) (w : World)
    (hn0 : n0 ≤ 1048576) (hn6 : n6 ≤ 1048576) (hn9 : n9 ≤ 1048576) (hn10 : m ≤ 1048576) (hSm : Small L n9) (hb7 : 0 ≤ i7) (hb7' : i7 ≤ 9223372036854775807) (hbl : bl ≤ n0)
    (hI : InRoom N ((n0 : Int) + n6) m) (hps : ps N m ≤ (n0 : Int) + n6) (hX : NoCross i7 n6 N m)
    (e6 : a6 = none → n6 = 0 ∧ c6 = 0) (e9 : a9 = none → n9 = 0 ∧ c9 = 0) (eA : ∀ j, j < n9 → A j = none → L j = 0 ∧ C j = 0)
    (r0 : Row w a0 n0 (u8 Z0)) (r6 : Row w a6 n6 (u8 Z6)) (r9 : Row w a9 n9 (words A L C)) (r10 : Row w a10 m (i64s N)) (rw9 : ∀ j, j < n9 → Row w (A j) (L j) (u8 (Zw j)))
    (bp : Int) (hbp : bp = blk i7 n6 (ps N m)) (u11 u12 u13 u14 u15 u16 u17 u18 u19 u20 u21 u22 u23 u24 u25 u27 u28 u30 u31 u32 u33 u34 u35 u36 u37 u38 u39 u40 u41 u42 u43 u44 u45 u46 u47 u48 u49 u50 u51 u52 u53 u54 u55 u56 u57 u58 u59 u60 u61 u62 u63 u64 u65 u66 u67 u68 u69 u70 u71 u72 u73 u74 u75 u76 u77 u78 u79 u80 u81 u82 u83 u84 u85 u86 u87 u88 u89 u90 u91 u92 u93 u94 u95 u96 u97 u98 u99 u100 u101 u102 u103 u104 u105 u106 u107 u108 u109 u110 u111 u112 u113 u114 u115 u116 u117 u118 u119 u120 u121 u122 u123 u124 u125 u126 u127 u128 u129 u130 u131 u132 u133 u134 u135 u136 u137 u138 u139 u140 u141 u142 u143 u144 u145 u146 u147 u148 u149 u150 u151 u152 u153 u154 u155 u156 u157 u158 u159 u160 u161 u162 u163 u164 u165 u166 u167 u168 u169 u170 u171 u172 u173 u174 u175 u176 u177 u178 u179 u180 u181 u182 u183 u184 u185 u186 u187 u188 u189 u190 u191 u192 u193 u194 u195 u196 u197 u198 u199 u200 u201 u202 u203 u204 u205 u206 u207 u208 u209 u210 u211 u212 u213 u214 u215 u216 u217 u218 u219 u220 u221 u222 u223 u224 u225 u226 u227 u228 u229 u230 u231 u232 u233 u234 u235 u236 u237 u238 u239 u240 u241 u242 u243 u244 u245 u246 u247 u248 u249 u250 u251 u252 u253 u254 u255 u256 u257 u258 u259 u260 u261 u262 u263 u264 u265 u266 u267 u268 u269 u270 u271 u272 u273 u274 u275 u276 u277 u278 u279 u280 u281 u282 u283 u284 u285 u286 u287 u288 u289 u290 u291 u292 u293 u294 u295 u296 u297 u298 u299 u300 u301 u302 u303 u304 u305 u306 u307 u308 u309 u310 u311 u312 u313 u314 u315 u316 u317 u318 u319 u320 u321 u322 u323 u324 u325 u326 u327 u328 u329 u330 u331 u332 u333 u334 u335 u336 u337 u338 : Value) :
    Code.wp Try.prog (tail 21 (Try.f3.body.getD .skip)) (bodyPost Try.prog Try.f3 fun e w' => e = .returned (.bool true) ∧ Below w.heap.size w w') ⟨#[.slice a0 n0 c0, .int .i64 bl, .int .i64 i2, .int .i64 i3, .int .i64 i4, .int .i64 i5, .slice a6 n6 c6, .int .i64 i7, .int .i64 i8, .slice a9 n9 c9, .slice a10 m c10, u11, u12, u13, u14, u15, u16, u17, u18, u19, u20, u21, u22, u23, u24, u25, .int .i64 (ps N m), u27, u28, .int .i64 bp, u30, u31, u32, u33, u34, u35, u36, u37, u38, u39, u40, u41, u42, u43, u44, u45, u46, u47, u48, u49, u50, u51, u52, u53, u54, u55, u56, u57, u58, u59, u60, u61, u62, u63, u64, u65, u66, u67, u68, u69, u70, u71, u72, u73, u74, u75, u76, u77, u78, u79, u80, u81, u82, u83, u84, u85, u86, u87, u88, u89, u90, u91, u92, u93, u94, u95, u96, u97, u98, u99, u100, u101, u102, u103, u104, u105, u106, u107, u108, u109, u110, u111, u112, u113, u114, u115, u116, u117, u118, u119, u120, u121, u122, u123, u124, u125, u126, u127, u128, u129, u130, u131, u132, u133, u134, u135, u136, u137, u138, u139, u140, u141, u142, u143, u144, u145, u146, u147, u148, u149, u150, u151, u152, u153, u154, u155, u156, u157, u158, u159, u160, u161, u162, u163, u164, u165, u166, u167, u168, u169, u170, u171, u172, u173, u174, u175, u176, u177, u178, u179, u180, u181, u182, u183, u184, u185, u186, u187, u188, u189, u190, u191, u192, u193, u194, u195, u196, u197, u198, u199, u200, u201, u202, u203, u204, u205, u206, u207, u208, u209, u210, u211, u212, u213, u214, u215, u216, u217, u218, u219, u220, u221, u222, u223, u224, u225, u226, u227, u228, u229, u230, u231, u232, u233, u234, u235, u236, u237, u238, u239, u240, u241, u242, u243, u244, u245, u246, u247, u248, u249, u250, u251, u252, u253, u254, u255, u256, u257, u258, u259, u260, u261, u262, u263, u264, u265, u266, u267, u268, u269, u270, u271, u272, u273, u274, u275, u276, u277, u278, u279, u280, u281, u282, u283, u284, u285, u286, u287, u288, u289, u290, u291, u292, u293, u294, u295, u296, u297, u298, u299, u300, u301, u302, u303, u304, u305, u306, u307, u308, u309, u310, u311, u312, u313, u314, u315, u316, u317, u318, u319, u320, u321, u322, u323, u324, u325, u326, u327, u328, u329, u330, u331, u332, u333, u334, u335, u336, u337, u338], []⟩ w := by
  subst hbp
  cases a9 with
  | none =>
    obtain ⟨rfl, rfl⟩ := e9 rfl
    exact rest1n a0 a6 a10 n0 c0 n6 c6 m c10 bl i2 i3 i4 i5 i7 i8 Z0 Z6 A L C Zw N w hn0 hn6 hn9 hn10 hSm hb7 hb7' hbl hI hps hX e6 eA r0 r6 r9 r10 rw9 u11 u12 u13 u14 u15 u16 u17 u18 u19 u20 u21 u22 u23 u24 u25 u27 u28 u30 u31 u32 u33 u34 u35 u36 u37 u38 u39 u40 u41 u42 u43 u44 u45 u46 u47 u48 u49 u50 u51 u52 u53 u54 u55 u56 u57 u58 u59 u60 u61 u62 u63 u64 u65 u66 u67 u68 u69 u70 u71 u72 u73 u74 u75 u76 u77 u78 u79 u80 u81 u82 u83 u84 u85 u86 u87 u88 u89 u90 u91 u92 u93 u94 u95 u96 u97 u98 u99 u100 u101 u102 u103 u104 u105 u106 u107 u108 u109 u110 u111 u112 u113 u114 u115 u116 u117 u118 u119 u120 u121 u122 u123 u124 u125 u126 u127 u128 u129 u130 u131 u132 u133 u134 u135 u136 u137 u138 u139 u140 u141 u142 u143 u144 u145 u146 u147 u148 u149 u150 u151 u152 u153 u154 u155 u156 u157 u158 u159 u160 u161 u162 u163 u164 u165 u166 u167 u168 u169 u170 u171 u172 u173 u174 u175 u176 u177 u178 u179 u180 u181 u182 u183 u184 u185 u186 u187 u188 u189 u190 u191 u192 u193 u194 u195 u196 u197 u198 u199 u200 u201 u202 u203 u204 u205 u206 u207 u208 u209 u210 u211 u212 u213 u214 u215 u216 u217 u218 u219 u220 u221 u222 u223 u224 u225 u226 u227 u228 u229 u230 u231 u232 u233 u234 u235 u236 u237 u238 u239 u240 u241 u242 u243 u244 u245 u246 u247 u248 u249 u250 u251 u252 u253 u254 u255 u256 u257 u258 u259 u260 u261 u262 u263 u264 u265 u266 u267 u268 u269 u270 u271 u272 u273 u274 u275 u276 u277 u278 u279 u280 u281 u282 u283 u284 u285 u286 u287 u288 u289 u290 u291 u292 u293 u294 u295 u296 u297 u298 u299 u300 u301 u302 u303 u304 u305 u306 u307 u308 u309 u310 u311 u312 u313 u314 u315 u316 u317 u318 u319 u320 u321 u322 u323 u324 u325 u326 u327 u328 u329 u330 u331 u332 u333 u334 u335 u336 u337 u338
  | some ad9 => exact rest1s ad9 a0 a6 a10 n0 c0 n6 c6 n9 c9 m c10 bl i2 i3 i4 i5 i7 i8 Z0 Z6 A L C Zw N w hn0 hn6 hn9 hn10 hSm hb7 hb7' hbl hI hps hX e6 eA r0 r6 r9 r10 rw9 u11 u12 u13 u14 u15 u16 u17 u18 u19 u20 u21 u22 u23 u24 u25 u27 u28 u30 u31 u32 u33 u34 u35 u36 u37 u38 u39 u40 u41 u42 u43 u44 u45 u46 u47 u48 u49 u50 u51 u52 u53 u54 u55 u56 u57 u58 u59 u60 u61 u62 u63 u64 u65 u66 u67 u68 u69 u70 u71 u72 u73 u74 u75 u76 u77 u78 u79 u80 u81 u82 u83 u84 u85 u86 u87 u88 u89 u90 u91 u92 u93 u94 u95 u96 u97 u98 u99 u100 u101 u102 u103 u104 u105 u106 u107 u108 u109 u110 u111 u112 u113 u114 u115 u116 u117 u118 u119 u120 u121 u122 u123 u124 u125 u126 u127 u128 u129 u130 u131 u132 u133 u134 u135 u136 u137 u138 u139 u140 u141 u142 u143 u144 u145 u146 u147 u148 u149 u150 u151 u152 u153 u154 u155 u156 u157 u158 u159 u160 u161 u162 u163 u164 u165 u166 u167 u168 u169 u170 u171 u172 u173 u174 u175 u176 u177 u178 u179 u180 u181 u182 u183 u184 u185 u186 u187 u188 u189 u190 u191 u192 u193 u194 u195 u196 u197 u198 u199 u200 u201 u202 u203 u204 u205 u206 u207 u208 u209 u210 u211 u212 u213 u214 u215 u216 u217 u218 u219 u220 u221 u222 u223 u224 u225 u226 u227 u228 u229 u230 u231 u232 u233 u234 u235 u236 u237 u238 u239 u240 u241 u242 u243 u244 u245 u246 u247 u248 u249 u250 u251 u252 u253 u254 u255 u256 u257 u258 u259 u260 u261 u262 u263 u264 u265 u266 u267 u268 u269 u270 u271 u272 u273 u274 u275 u276 u277 u278 u279 u280 u281 u282 u283 u284 u285 u286 u287 u288 u289 u290 u291 u292 u293 u294 u295 u296 u297 u298 u299 u300 u301 u302 u303 u304 u305 u306 u307 u308 u309 u310 u311 u312 u313 u314 u315 u316 u317 u318 u319 u320 u321 u322 u323 u324 u325 u326 u327 u328 u329 u330 u331 u332 u333 u334 u335 u336 u337 u338

end Go.Proofs.Qxb6623438a.Seat
