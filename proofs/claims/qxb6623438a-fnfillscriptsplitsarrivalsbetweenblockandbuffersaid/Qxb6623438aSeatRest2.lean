/- Seat b6623438a: the walk's third part: the reader is laid and filled. -/
import Derived.Test.Qxb6623438aSeatRest3
namespace Go.Proofs.Qxb6623438a.Seat
open Go.RowKit

/-- Arrivals as cells. -/
def i64s (N : Nat → Int) (j : Nat) : Value := .int .i64 (N j)

/-- The first k arrivals are in the room. -/
def InRoom (N : Nat → Int) (room : Int) (k : Nat) : Prop := ∀ j, j < k → 0 ≤ N j ∧ N j ≤ room

/-- The buffer's length behind k arrivals. -/
def lbk (bl : Nat) (rec d : Int) (N : Nat → Int) (k : Nat) : Nat := bl + (ps N k - blk rec d (ps N k)).toNat

theorem lbk_eq (bl : Nat) (rec d : Int) (N : Nat → Int) (n k : Nat) (hk : k ≤ n) (h : ∀ j, j < n → 0 ≤ N j) : (lbk bl rec d N k : Int) = bl + (ps N k - blk rec d (ps N k)) := by
  have h0 := ps_nonneg N n h k hk
  have h1 := blk_bd rec d (ps N k) h0
  unfold lbk
  omega

set_option linter.unusedVariables false
set_option maxRecDepth 100000 in
set_option maxHeartbeats 4000000 in
theorem rest2 (a0 a6 a9 a10 ca wa : Option Addr) (n0 c0 n6 c6 n9 c9 m c10 bl B cc wcap : Nat) (i2 i3 i4 i5 i7 i8 : Int) (Z0 Z6 : Nat → Int) (A : Nat → Option Addr) (L C : Nat → Nat) (Zw : Nat → Nat → Int) (N : Nat → Int) (w wx : World)
    (hbel : Below w.heap.size w wx)
    (hB : wx.rowIs B 5 n0 (u8 Z0)) (hn0 : n0 ≤ 1048576) (hn6 : n6 ≤ 1048576) (hn9 : n9 ≤ 1048576) (hn10 : m ≤ 1048576) (hSm : Small L n9) (hb7 : 0 ≤ i7) (hb7' : i7 ≤ 9223372036854775807)
    (hI : InRoom N ((n0 : Int) + n6) m) (hX : NoCross i7 n6 N m) (hfit : (bl : Int) + (ps N m - blk i7 n6 (ps N m)) ≤ n0)
    (hcn : ca.isNone = a6.isNone) (hcl : Row wx ca n6 (u8 Z6)) (hW : WordsOk wx wa a9 A L Zw n9)
    (r0 : Row w a0 n0 (u8 Z0)) (r6 : Row w a6 n6 (u8 Z6)) (r9 : Row w a9 n9 (words A L C)) (r10 : Row w a10 m (i64s N)) (rw9 : ∀ j, j < n9 → Row w (A j) (L j) (u8 (Zw j)))
    (u11 u12 u13 u14 u15 u16 u17 u18 u19 u20 u21 u22 u23 u24 u25 u26 u27 u28 u30 u31 u32 u33 u38 u39 u40 u41 u42 u43 u44 u45 u46 u47 u48 u49 u50 u51 u52 u53 u54 u55 u56 u57 u58 u59 u60 u61 u62 u63 u64 u65 u66 u67 u68 u69 u70 u71 u72 u73 u74 u75 u76 u77 u78 u79 u80 u81 u82 u83 u84 u85 u86 u87 u88 u89 u90 u91 u92 u93 u94 u95 u96 u97 u98 u99 u100 u101 u102 u103 u104 u105 u106 u107 u108 u109 u110 u111 u112 u113 u114 u115 u116 u117 u118 u119 u120 u121 u122 u123 u124 u125 u126 u127 u128 u129 u130 u131 u132 u133 u134 u135 u136 u137 u138 u139 u140 u141 u142 u143 u144 u145 u146 u147 u148 u149 u150 u151 u152 u153 u154 u155 u156 u157 u158 u159 u160 u161 u162 u163 u164 u165 u166 u167 u168 u169 u170 u171 u172 u173 u174 u175 u176 u177 u178 u179 u180 u181 u182 u183 u184 u185 u186 u187 u188 u189 u190 u191 u192 u193 u194 u195 u196 u197 u198 u199 u200 u201 u202 u203 u204 u205 u206 u207 u208 u209 u210 u211 u212 u213 u214 u215 u216 u217 u218 u219 u220 u221 u222 u223 u224 u225 u226 u227 u228 u229 u230 u231 u232 u233 u234 u235 u236 u237 u238 u239 u240 u241 u242 u243 u244 u245 u246 u247 u248 u249 u250 u251 u252 u253 u254 u255 u256 u257 u258 u259 u260 u261 u262 u263 u264 u265 u266 u267 u268 u269 u270 u271 u272 u273 u274 u275 u276 u277 u278 u279 u280 u281 u282 u283 u284 u285 u286 u287 u288 u289 u290 u291 u292 u293 u294 u295 u296 u297 u298 u299 u300 u301 u302 u303 u304 u305 u306 u307 u308 u309 u310 u311 u312 u313 u314 u315 u316 u317 u318 u319 u320 u321 u322 u323 u324 u325 u326 u327 u328 u329 u330 u331 u332 u333 u334 u335 u336 u337 u338 : Value) :
    Code.wp Try.prog (tail 28 (Try.f3.body.getD .skip)) (bodyPost Try.prog Try.f3 fun e w' => e = .returned (.bool true) ∧ Below w.heap.size w w') ⟨#[.slice a0 n0 c0, .int .i64 bl, .int .i64 i2, .int .i64 i3, .int .i64 i4, .int .i64 i5, .slice a6 n6 c6, .int .i64 i7, .int .i64 i8, .slice a9 n9 c9, .slice a10 m c10, u11, u12, u13, u14, u15, u16, u17, u18, u19, u20, u21, u22, u23, u24, u25, u26, u27, u28, .int .i64 (blk i7 n6 (ps N m)), u30, u31, u32, u33, .int .i64 (ps N m - blk i7 n6 (ps N m)), .slice (some ⟨B, 0, none⟩) n0 n0, .slice ca n6 cc, .slice wa n9 wcap, u38, u39, u40, u41, u42, u43, u44, u45, u46, u47, u48, u49, u50, u51, u52, u53, u54, u55, u56, u57, u58, u59, u60, u61, u62, u63, u64, u65, u66, u67, u68, u69, u70, u71, u72, u73, u74, u75, u76, u77, u78, u79, u80, u81, u82, u83, u84, u85, u86, u87, u88, u89, u90, u91, u92, u93, u94, u95, u96, u97, u98, u99, u100, u101, u102, u103, u104, u105, u106, u107, u108, u109, u110, u111, u112, u113, u114, u115, u116, u117, u118, u119, u120, u121, u122, u123, u124, u125, u126, u127, u128, u129, u130, u131, u132, u133, u134, u135, u136, u137, u138, u139, u140, u141, u142, u143, u144, u145, u146, u147, u148, u149, u150, u151, u152, u153, u154, u155, u156, u157, u158, u159, u160, u161, u162, u163, u164, u165, u166, u167, u168, u169, u170, u171, u172, u173, u174, u175, u176, u177, u178, u179, u180, u181, u182, u183, u184, u185, u186, u187, u188, u189, u190, u191, u192, u193, u194, u195, u196, u197, u198, u199, u200, u201, u202, u203, u204, u205, u206, u207, u208, u209, u210, u211, u212, u213, u214, u215, u216, u217, u218, u219, u220, u221, u222, u223, u224, u225, u226, u227, u228, u229, u230, u231, u232, u233, u234, u235, u236, u237, u238, u239, u240, u241, u242, u243, u244, u245, u246, u247, u248, u249, u250, u251, u252, u253, u254, u255, u256, u257, u258, u259, u260, u261, u262, u263, u264, u265, u266, u267, u268, u269, u270, u271, u272, u273, u274, u275, u276, u277, u278, u279, u280, u281, u282, u283, u284, u285, u286, u287, u288, u289, u290, u291, u292, u293, u294, u295, u296, u297, u298, u299, u300, u301, u302, u303, u304, u305, u306, u307, u308, u309, u310, u311, u312, u313, u314, u315, u316, u317, u318, u319, u320, u321, u322, u323, u324, u325, u326, u327, u328, u329, u330, u331, u332, u333, u334, u335, u336, u337, u338], []⟩ wx := by
  have hNn : ∀ j, j < m → 0 ≤ N j := fun j hj => (hI j hj).1
  have HNn := hidm hNn
  have hl0 := lbk_eq bl i7 n6 N m 0 (by omega) hNn
  have hlm := lbk_eq bl i7 n6 N m m (by omega) hNn
  have hpm := ps_nonneg N m hNn m (Nat.le_refl _)
  have hbd := blk_bd i7 n6 (ps N m) hpm
  have hblle : bl ≤ n0 := by omega
  have HN := hidm (new_reader (some ⟨B, 0, none⟩) ca wa bl n0 n6 cc n9 wcap i2 i3 i4 i5 i7 i8 wx)
  have HB := hidm hB
  have HI := hidm hI
  have HX := hidm hX
  have HCN := hidm hcn
  have HCL := hidm hcl
  have HW := hidm hW
  have R0 := hidm r0
  have R6 := hidm r6
  have R9 := hidm r9
  have R10 := hidm r10
  have RW := hidm rw9
  have HS := hidm hSm
  have HLM := hidm hlm
  have HBD := hidm hbd
  have HFIT := hidm hfit
  clear hB hI hX hcn hcl hW r0 r6 r9 r10 rw9 hSm hl0 hlm hbd hNn hfit hpm
  conv => arg 2; whnf
  go_wp2_with fail
  refine (Hid.out HN).mono ?_
  rintro e w3 ⟨rfl, hr3, hb3⟩
  have HR3 := hidm hr3
  clear HN hr3
  go_wp2
  go_loopw [40] (fun i wr => ∃ k : Nat, k ≤ m ∧ i = .int .i64 k ∧ Hid (wr.rowIs wx.heap.size 34 9 (rd (.slice (some ⟨B, 0, none⟩) (lbk bl i7 n6 N k) n0) (.int .i64 i2) (.int .i64 i3) (.int .i64 i4) (.int .i64 i5) (.slice ca n6 cc) (.int .i64 (i7 + blk i7 n6 (ps N k))) (.int .i64 i8) (.slice wa n9 wcap))) ∧ Below wx.heap.size wx wr) (fun i _ => m - (intOf i).toNat)
  case atStart =>
    refine ⟨0, Nat.zero_le _, rfl, ?_, hb3⟩
    have e1 : lbk bl i7 n6 N 0 = bl := by simp [lbk, ps, blk_zero]
    have e2 : i7 + blk i7 n6 (ps N 0) = i7 := by simp [ps, blk_zero]
    rw [e1, e2]
    exact HR3.out
  case round =>
    obtain ⟨k, hk, rfl, HR, hbr⟩ := hrel
    clear hb3 HR3
    by_cases hlt : k < m
    · rcases R10.out with hz | ⟨b, o, rfl, hb, hcell⟩
      · omega
      have hbw : Below w.heap.size w wr := hbel.trans (hbr.mono hbel.size)
      have hcx : wr.cell? ⟨b, o + k, none⟩ = some (.int .i64 (N k)) := (hbw.cell (by exact hb)).trans (hcell k hlt)
      clear hcell
      have hpk := ps_nonneg N m HNn.out k (by omega)
      have hbk := blk_bd i7 n6 (ps N k) hpk
      by_cases hin : i7 + blk i7 n6 (ps N k) < n6
      · have hst := step_block i7 n6 N m k hlt HNn.out HX.out hin
        have HFl := hidm (fill_block wx.heap.size (some ⟨B, 0, none⟩) ca (lbk bl i7 n6 N k) n0 n6 cc (i7 + blk i7 n6 (ps N k)) (N k) (.int .i64 i2) (.int .i64 i3) (.int .i64 i4) (.int .i64 i5) (.int .i64 i8) (.slice wa n9 wcap) wr HR.out hin (by omega) (HNn.out k hlt) (by omega) hn6)
        have HST := hidm hst
        clear hst hbk hpk hin
        go_wp2_with fail
        refine (Hid.out HFl).mono ?_
        rintro e w5 ⟨rfl, hr5, hb5⟩
        have HR5 := hidm hr5
        clear HFl hr5
        go_wp2
        go_roundw
        case rel =>
          refine ⟨k + 1, by omega, by go_num, ?_, hbr.trans hb5⟩
          have e1 : lbk bl i7 n6 N (k + 1) = lbk bl i7 n6 N k := by unfold lbk; rw [HST.out.2.1]
          have e2 : i7 + blk i7 n6 (ps N (k + 1)) = i7 + blk i7 n6 (ps N k) + N k := by rw [HST.out.1]; omega
          rw [e1, e2]
          exact HR5.out
        case measure => simp [intOf]; omega
      · have hst := step_buf i7 n6 N m k hlt HNn.out hin
        have hlk := lbk_eq bl i7 n6 N m k (by omega) HNn.out
        have hlk1 := lbk_eq bl i7 n6 N m (k + 1) (by omega) HNn.out
        have hmo := buf_mono i7 n6 (ps N (k + 1)) (ps N m) (ps_mono N m HNn.out (k + 1) m (by omega) (Nat.le_refl _))
        have hfit := HFIT.out
        have HFl := hidm (fill_buf' wx.heap.size ⟨B, 0, none⟩ ca (lbk bl i7 n6 N k) (lbk bl i7 n6 N (k + 1)) n0 n6 cc (i7 + blk i7 n6 (ps N k)) (N k) (.int .i64 i2) (.int .i64 i3) (.int .i64 i4) (.int .i64 i5) (.int .i64 i8) (.slice wa n9 wcap) wr HR.out hin (HNn.out k hlt) (by omega) (by omega) hn0)
        have HST := hidm hst
        clear hst hbk hpk hin hlk hlk1 hmo hfit
        go_wp2_with fail
        refine (Hid.out HFl).mono ?_
        rintro e w5 ⟨rfl, hr5, hb5⟩
        have HR5 := hidm hr5
        clear HFl hr5
        go_wp2
        go_roundw
        case rel =>
          refine ⟨k + 1, by omega, by go_num, ?_, hbr.trans hb5⟩
          rw [HST.out.1]
          exact HR5.out
        case measure => simp [intOf]; omega
    · have hke : k = m := by omega
      subst hke
      have hbw : Below w.heap.size w wr := hbel.trans (hbr.mono hbel.size)
      have q1 : lbk bl i7 n6 N k ≤ n0 := by have := HLM.out; have := HFIT.out; omega
      have q2 : i7 + blk i7 n6 (ps N k) ≤ 9223372036854775807 := by
        have hbd := HBD.out
        by_cases hrd : i7 < n6
        · have := hbd.2.2.1 hrd; omega
        · have := hbd.2.2.2 (by omega); omega
      have q3 : 0 ≤ blk i7 n6 (ps N k) := HBD.out.1
      have HF3 := hidm (rest3 a0 a6 a9 a10 ca wa n0 c0 n6 c6 n9 c9 k c10 bl (lbk bl i7 n6 N k) wx.heap.size B cc wcap i2 i3 i4 i5 i7 i8 (blk i7 n6 (ps N k)) (ps N k - blk i7 n6 (ps N k)) Z0 Z6 A L C Zw w wr hbw HR.out (rowIs_below HB.out hbr HB.out.lt) q1 HLM.out hn0 hn6 hn9 HS.out q2 hb7 q3 HCN.out (HCL.out.below hbr) (HW.out.below hbr) (R0.out.below hbw) (R6.out.below hbw) (R9.out.below hbw) (fun j hj => (RW.out j hj).below hbw))
      clear q1 q2 q3
      go_upto_if 237 with fail
      go_step
      go_step
      go_step
      go_step
      go_step
      go_step
      exact HF3.out _ _ _ _ _ _ _ _ _ _ _ _ _ _ _ _ _ _ _ _ _ _ _ _ _ _ _ _ _ _ _ _ _ _ _ _ _ _ _ _ _ _ _ _ _ _ _ _ _ _ _ _ _ _ _ _ _ _ _ _ _ _ _ _ _ _ _ _ _ _ _ _ _ _ _ _ _ _ _ _ _ _ _ _ _ _ _ _ _ _ _ _ _ _ _ _ _ _ _ _ _ _ _ _ _ _ _ _ _ _ _ _ _ _ _ _ _ _ _ _ _ _ _ _ _ _ _ _ _ _ _ _ _ _ _ _ _ _ _ _ _ _ _ _ _ _ _ _ _ _ _ _ _ _ _ _ _ _ _ _ _ _ _ _ _ _ _ _ _ _ _ _ _ _ _ _ _ _ _ _ _ _ _ _ _ _ _ _ _ _ _ _ _ _ _ _ _ _ _ _ _ _ _ _ _ _ _ _ _ _ _ _ _ _ _ _ _ _ _ _ _ _ _ _ _ _ _ _ _ _ _ _ _ _ _ _ _ _ _ _ _ _ _ _ _ _ _ _ _ _ _ _ _ _ _ _ _ _ _ _ _ _ _ _ _ _ _ _ _ _ _ _ _ _ _ _ _ _ _ _ _ _ _ _ _ _ _ _ _ _ _ _ _ _ _ _ _ _ _ _ _ _ _ _ _ _ _ _ _ _ _ _ _ _ _ _ _ _ _ _ _ _ _ _ _

end Go.Proofs.Qxb6623438a.Seat
