/- Seat b6623438a: the walk's last part: the reader's fields are read and compared. -/
import Derived.Test.Qxb6623438aSeatTail
namespace Go.Proofs.Qxb6623438a.Seat
open Go.RowKit

set_option linter.unusedVariables false
theorem cell_heap {w w' : World} (hw : w'.heap = w.heap) (a : Addr) : w'.cell? a = w.cell? a := by simp [World.cell?, hw]
theorem row_heap {w w' : World} {a : Option Addr} {n : Nat} {f : Nat → Value} (hw : w'.heap = w.heap) (h : Row w a n f) : Row w' a n f := by
  rcases h with h | ⟨b, o, rfl, hlt, hc⟩
  · exact Or.inl h
  · exact Or.inr ⟨b, o, rfl, by rw [hw]; exact hlt, fun j hj => by rw [← hc j hj]; simp [World.cell?, hw]⟩

set_option maxRecDepth 100000 in
set_option maxHeartbeats 4000000 in
theorem rest3 (a0 a6 a9 a10 ca wa : Option Addr) (n0 c0 n6 c6 n9 c9 m c10 bl lb R B cc wcap : Nat) (i2 i3 i4 i5 i7 i8 bp bq : Int) (Z0 Z6 : Nat → Int) (A : Nat → Option Addr) (L C : Nat → Nat) (Zw : Nat → Nat → Int) (w wx : World)
    (hbel : Below w.heap.size w wx)
    (hR : wx.rowIs R 34 9 (rd (.slice (some ⟨B, 0, none⟩) lb n0) (.int .i64 i2) (.int .i64 i3) (.int .i64 i4) (.int .i64 i5) (.slice ca n6 cc) (.int .i64 (i7 + bp)) (.int .i64 i8) (.slice wa n9 wcap)))
    (hB : wx.rowIs B 5 n0 (u8 Z0)) (hlb : lb ≤ n0) (elb : (lb : Int) = bl + bq) (hn0 : n0 ≤ 1048576) (hn6 : n6 ≤ 1048576) (hn9 : n9 ≤ 1048576) (hSm : Small L n9) (hbp : i7 + bp ≤ 9223372036854775807) (hb7 : 0 ≤ i7) (hbp0 : 0 ≤ bp)
    (hcn : ca.isNone = a6.isNone) (hcl : Row wx ca n6 (u8 Z6)) (hW : WordsOk wx wa a9 A L Zw n9)
    (r0 : Row wx a0 n0 (u8 Z0)) (r6 : Row wx a6 n6 (u8 Z6)) (r9 : Row wx a9 n9 (words A L C)) (rw9 : ∀ j, j < n9 → Row wx (A j) (L j) (u8 (Zw j)))
    (u11 u12 u13 u14 u15 u16 u17 u18 u19 u20 u21 u22 u23 u24 u25 u26 u27 u28 u30 u31 u32 u33 u35 u36 u37 u38 u40 u41 u42 u43 u44 u45 u46 u47 u48 u49 u50 u51 u52 u53 u54 u55 u56 u57 u58 u59 u60 u61 u62 u63 u64 u65 u66 u67 u68 u69 u70 u71 u72 u73 u74 u75 u76 u77 u78 u79 u80 u81 u82 u83 u84 u85 u86 u87 u88 u89 u90 u91 u92 u93 u94 u95 u96 u97 u98 u99 u100 u101 u102 u103 u104 u105 u106 u107 u108 u109 u110 u111 u112 u113 u114 u115 u116 u117 u118 u119 u120 u121 u122 u123 u124 u125 u126 u127 u128 u129 u130 u131 u132 u133 u134 u135 u136 u137 u138 u139 u140 u141 u142 u143 u144 u145 u146 u147 u148 u149 u150 u151 u152 u153 u154 u155 u156 u157 u158 u159 u160 u161 u162 u163 u164 u165 u166 u167 u168 u169 u170 u171 u172 u173 u174 u175 u176 u177 u178 u179 u180 u181 u182 u183 u184 u185 u186 u187 u188 u189 u190 u191 u192 u193 u194 u195 u196 u197 u198 u199 u200 u201 u202 u203 u204 u205 u206 u207 u208 u209 u210 u211 u212 u213 u214 u215 u216 u217 u218 u219 u220 u221 u222 u223 u224 u225 u226 u227 u228 u229 u230 u231 u232 u233 u234 u235 u236 u237 u238 u239 u240 u241 u242 u243 u244 u245 u246 u247 u248 u249 u250 u251 u252 u253 u254 u255 u256 u257 u258 u259 u260 u261 u262 u263 u264 u265 u266 u267 u268 u269 u270 u271 u272 u273 u274 u275 u276 u277 u278 u279 u280 u281 u282 u283 u284 u285 u286 u287 u288 u289 u290 u291 u292 u293 u294 u295 u296 u297 u298 u299 u300 u301 u302 u303 u304 u305 u306 u307 u308 u309 u310 u311 u312 u313 u314 u315 u316 u317 u318 u319 u320 u321 u322 u323 u324 u325 u326 u327 u328 u329 u330 u331 u332 u333 u334 u335 u336 u337 u338 : Value) :
    Code.wp Try.prog (tail 30 (Try.f3.body.getD .skip)) (bodyPost Try.prog Try.f3 fun e w' => e = .returned (.bool true) ∧ Below w.heap.size w w') ⟨#[.slice a0 n0 c0, .int .i64 bl, .int .i64 i2, .int .i64 i3, .int .i64 i4, .int .i64 i5, .slice a6 n6 c6, .int .i64 i7, .int .i64 i8, .slice a9 n9 c9, .slice a10 m c10, u11, u12, u13, u14, u15, u16, u17, u18, u19, u20, u21, u22, u23, u24, u25, u26, u27, u28, .int .i64 bp, u30, u31, u32, u33, .int .i64 bq, u35, u36, u37, u38, .pointer (some ⟨R, 0, none⟩), u40, u41, u42, u43, u44, u45, u46, u47, u48, u49, u50, u51, u52, u53, u54, u55, u56, u57, u58, u59, u60, u61, u62, u63, u64, u65, u66, u67, u68, u69, u70, u71, u72, u73, u74, u75, u76, u77, u78, u79, u80, u81, u82, u83, u84, u85, u86, u87, u88, u89, u90, u91, u92, u93, u94, u95, u96, u97, u98, u99, u100, u101, u102, u103, u104, u105, u106, u107, u108, u109, u110, u111, u112, u113, u114, u115, u116, u117, u118, u119, u120, u121, u122, u123, u124, u125, u126, u127, u128, u129, u130, u131, u132, u133, u134, u135, u136, u137, u138, u139, u140, u141, u142, u143, u144, u145, u146, u147, u148, u149, u150, u151, u152, u153, u154, u155, u156, u157, u158, u159, u160, u161, u162, u163, u164, u165, u166, u167, u168, u169, u170, u171, u172, u173, u174, u175, u176, u177, u178, u179, u180, u181, u182, u183, u184, u185, u186, u187, u188, u189, u190, u191, u192, u193, u194, u195, u196, u197, u198, u199, u200, u201, u202, u203, u204, u205, u206, u207, u208, u209, u210, u211, u212, u213, u214, u215, u216, u217, u218, u219, u220, u221, u222, u223, u224, u225, u226, u227, u228, u229, u230, u231, u232, u233, u234, u235, u236, u237, u238, u239, u240, u241, u242, u243, u244, u245, u246, u247, u248, u249, u250, u251, u252, u253, u254, u255, u256, u257, u258, u259, u260, u261, u262, u263, u264, u265, u266, u267, u268, u269, u270, u271, u272, u273, u274, u275, u276, u277, u278, u279, u280, u281, u282, u283, u284, u285, u286, u287, u288, u289, u290, u291, u292, u293, u294, u295, u296, u297, u298, u299, u300, u301, u302, u303, u304, u305, u306, u307, u308, u309, u310, u311, u312, u313, u314, u315, u316, u317, u318, u319, u320, u321, u322, u323, u324, u325, u326, u327, u328, u329, u330, u331, u332, u333, u334, u335, u336, u337, u338], []⟩ wx := by
  have HF := hidm (fields R _ _ _ _ _ _ _ _ _ wx hR)
  have HB := hidm hB
  have HSD := hidm (fun q => same_any ca a6 n6 cc c6 Z6 (wx.drewN q) hn6 hcn hcl r6)
  have R0 := hidm r0
  have R9 := hidm r9
  have RW := hidm rw9
  have HS := hidm hSm
  have HW := hidm hW
  have e1 : ((lb : Int) == bl + bq) = true := beq_iff_eq.2 elb
  have hq0 : 0 ≤ (bl : Int) + bq := by omega
  have hq1 : (bl : Int) + bq ≤ 1048576 := by omega
  have hnil := eqNil23
  clear hR hB hcl r0 r6 r9 rw9 hSm hW hcn elb
  conv => arg 2; whnf
  go_wp2_with fail
  refine (Hid.out HF).mono ?_
  rintro e w2 ⟨rfl, q, rfl⟩
  clear HF
  go_wp2
  go_loopw [50] (fun i wr => ∃ k q : Nat, k ≤ lb ∧ i = .int .i64 k ∧ wr = wx.drewN q) (fun i _ => lb - (intOf i).toNat)
  case atStart => exact ⟨0, q, Nat.zero_le _, rfl, rfl⟩
  case round =>
    obtain ⟨k, q', hk, rfl, rfl⟩ := hrel
    by_cases hlt : k < lb
    · rcases R0.out with hz | ⟨b, o, rfl, hb, hcell⟩
      · omega
      have hc1 : wx.cell? ⟨b, o + k, none⟩ = some (.int .u8 (Z0 k)) := hcell k (by omega)
      have hc2 : wx.cell? ⟨B, k, none⟩ = some (.int .u8 (Z0 k)) := HB.out.cell (by omega)
      clear hcell
      go_wp2
      go_quiet (fail)
      go_wp2
      go_roundw
      case rel => exact ⟨k + 1, _, by omega, by go_num, rfl⟩
      case measure => simp [intOf]; omega
    · go_wp2_with fail
      refine (HSD.out q').mono ?_
      rintro e w3 ⟨rfl, q3, rfl⟩
      clear HSD
      have hwn : (wa.isNone == a9.isNone) = true := by rw [HW.out.1]; simp
      go_wp2
      go_loopw [51] (fun i wr => ∃ j : Nat, j ≤ n9 ∧ i = .int .i64 j ∧ Hid (wr.heap = wx.heap) ∧ Below w.heap.size w wr) (fun i _ => n9 - (intOf i).toNat)
      case atStart => exact ⟨0, Nat.zero_le _, rfl, rfl, below_drewN hbel _⟩
      case round =>
        obtain ⟨j, hj, rfl, HH, hbr⟩ := hrel
        by_cases hlt2 : j < n9
        · rcases R9.out with hz | ⟨b, o, rfl, hb, hcell⟩
          · omega
          rcases HW.out.2 with hz | ⟨G, rfl, CA, CC, hrG, hall⟩
          · omega
          have hc1 : wr.cell? ⟨b, o + j, none⟩ = some (.slice (A j) (L j) (C j)) := (cell_heap HH.out _).trans (hcell j hlt2)
          have hc2 : wr.cell? ⟨G, j, none⟩ = some (.slice (CA j) (L j) (CC j)) := by
            have := hrG.cell hlt2
            rw [if_pos hlt2] at this
            exact (cell_heap HH.out _).trans this
          have HC : Hid (∀ W : World, W.heap = wr.heap → Calls Try.prog 9 #[.slice (CA j) (L j) (CC j), .slice (A j) (L j) (C j)] W fun e w' => e = .returned (.bool true) ∧ ∃ q, w' = W.drewN q) := fun W hW => same_any (CA j) (A j) (L j) (CC j) (C j) (Zw j) W (HS.out j hlt2) (hall j hlt2).1 (row_heap (hW.trans HH.out) (hall j hlt2).2.row) (row_heap (hW.trans HH.out) (RW.out j hlt2))
          clear hcell hrG hall
          go_wp2
          go_quiet ((go_at_call 9; refine Calls.quiet_of (HC.out _ ?_); rfl))
          go_wp2
          go_roundw
          case rel => exact ⟨j + 1, by omega, by go_num, HH.out, below_drewN hbr _⟩
          case measure => simp [intOf]; omega
        · go_wp2
          go_ret
          exact ⟨rfl, hbr⟩

end Go.Proofs.Qxb6623438a.Seat
