/- Seat b6623438a: zzCloneBytes, ZZNewReader, Fill, ZZReaderFields, zzSameBytes. -/
import Derived.Test.Qxb6623438aSeatBytes
import Derived.Deep.QuietTactic
import Derived.BigQuiet
import Derived.RegionTactic
import Derived.WalkSpells
namespace Go.Proofs.Qxb6623438a.Seat
open Go.RowKit

theorem info5 : (Try.prog.info? 5).map (fun i => (i.zero, i.size, i.bytes)) = some (some (.int .u8 0), 1, 1) := by kernel_rfl
theorem size5 : (Try.prog.info? 5).map (·.size) = some 1 := by kernel_rfl

/-- Bytes as cells. -/
def u8 (Z : Nat → Int) (j : Nat) : Value := .int .u8 (Z j)

/-- 'xs == nil' at a slice of bytes. -/
theorem eqNil (a : Option Addr) (n c : Nat) (w : World) : (binOp .eql 22 (.slice a n c) (.slice none 0 0)).run Try.prog w = .ok (.bool a.isNone) w := Lib.run_eql_slice_nil w 22 5 a n c 0 0 Try.underlying22

/-- A clone of nothing. -/
theorem clone_nil (w : World) : Calls Try.prog 5 #[.slice none 0 0] w fun e w' => e = .returned (.slice none 0 0) ∧ w' = w := by
  have hnil := eqNil
  go_enter Try.func5, Try.ntmps5
  go_wp2
  go_ret
  exact ⟨rfl, rfl⟩

/-- 'copy' of n bytes into a new row of n bytes. -/
theorem copy_new (w : World) (a : Option Addr) (n c : Nat) (Z : Nat → Int) (hc : Row w a n (u8 Z)) :
    ∃ W1, (∀ ty, (Builtin.copy_ #[22, 22] ty #[.slice (some ⟨w.heap.size, 0, none⟩) n n, .slice a n c]).run Try.prog (w.alloc (.cells (madeCells #[.int .u8 0] n) 5)) = .ok (goInt n) W1) ∧
      W1.rowIs w.heap.size 5 n (u8 Z) ∧ Below w.heap.size w W1 := by
  rcases hc with rfl | ⟨b, o, rfl, hb, hcell⟩
  · refine ⟨_, fun ty => run_copy_none (P := Try.prog) _ 22 22 ty 5 _ _ 0 0 0 c Try.underlying22 size5 rfl, ?_, (Below.refl _ _).alloc (Nat.le_refl _) _⟩
    exact (World.rowIs_made _ _ _ _).congr (fun i hi => absurd hi (Nat.not_lt_zero _))
  · have hg : (w.alloc (.cells (madeCells #[Value.int .u8 0] n) 5)).heap[w.heap.size]? = some (.cells (madeCells #[Value.int .u8 0] n) 5 (0, 0)) := heap_alloc_new w _
    have hrun := fun ty => run_copy_row (P := Try.prog) (w.alloc (.cells (madeCells #[Value.int .u8 0] n) 5)) 22 22 ty 5 w.heap.size 0 n n ⟨b, o, none⟩ n c (madeCells #[Value.int .u8 0] n) 5 ((List.range n).map (u8 Z)) Try.underlying22 size5 hg (by simp) (by
        intro j v hj
        rw [List.getElem?_map] at hj
        by_cases hjn : j < n
        · rw [List.getElem?_range hjn] at hj
          simp at hj
          subst hj
          have e : (⟨b, o, none⟩ : Addr).add j = ⟨b, o + j, none⟩ := by unfold Addr.add; split <;> simp_all
          rw [e, World.cell?_alloc_lt _ _ _ hb]
          exact hcell j hjn
        · rw [List.getElem?_eq_none (by simp; omega)] at hj
          simp at hj) (by simp [size_madeCells]) (by intro v hv; simp at hv; obtain ⟨i, _, rfl⟩ := hv; rfl)
    simp only [List.length_map, List.length_range] at hrun
    refine ⟨_, hrun, ⟨_, setRow_heap _ _ _ _ 5 _ hg, ?_, ?_⟩, below_setRow ((Below.refl _ _).alloc (Nat.le_refl _) _) (Nat.le_refl _) _⟩
    · simp [size_madeCells]
    · intro i hi
      rw [List.getElem?_toArray, List.take_zero, List.nil_append, List.getElem?_append_left (by simp; exact hi)]
      simp [hi]

set_option maxHeartbeats 400000 in
theorem clone_some (ad : Addr) (n c : Nat) (Z : Nat → Int) (w : World) (hn : n ≤ 1048576) (hc : Row w (some ad) n (u8 Z)) :
    Calls Try.prog 5 #[.slice (some ad) n c] w fun e w' => e = .returned (.slice (some ⟨w.heap.size, 0, none⟩) n n) ∧ w'.rowIs w.heap.size 5 n (u8 Z) ∧ Below w.heap.size w w' := by
  have hmk := run_make_row' (P := Try.prog) 22 5 (.int .u8 0) 1 Try.underlying22 info5 rfl .i64 .i64 n (by omega) (by omega)
  obtain ⟨W1, hcp, hr, hbl⟩ := copy_new w (some ad) n c Z hc
  have HR := hidm hr
  clear hc hr
  have hnil := eqNil
  go_enter Try.func5, Try.ntmps5
  go_wp2
  go_ret
  exact ⟨rfl, HR.out, hbl⟩

/-- The nine fields of a Reader, by index. -/
def rd (buf off sc need skip dst rec md wds : Value) : Nat → Value
  | 0 => buf
  | 1 => off
  | 2 => sc
  | 3 => need
  | 4 => skip
  | 5 => dst
  | 6 => rec
  | 7 => md
  | _ => wds

theorem row_nine (w : World) (v0 v1 v2 v3 v4 v5 v6 v7 v8 : Value) : (w.alloc (.cells #[v0, v1, v2, v3, v4, v5, v6, v7, v8] 34)).rowIs w.heap.size 34 9 (rd v0 v1 v2 v3 v4 v5 v6 v7 v8) := by
  refine ⟨_, heap_alloc_new w _, rfl, ?_⟩
  intro i hi
  match i, hi with
  | 0, _ => rfl
  | 1, _ => rfl
  | 2, _ => rfl
  | 3, _ => rfl
  | 4, _ => rfl
  | 5, _ => rfl
  | 6, _ => rfl
  | 7, _ => rfl
  | 8, _ => rfl

theorem rd_set6 (v0 v1 v2 v3 v4 v5 v6 v7 v8 x : Value) (i : Nat) : (if i = 6 then x else rd v0 v1 v2 v3 v4 v5 v6 v7 v8 i) = rd v0 v1 v2 v3 v4 v5 x v7 v8 i := by
  match i with
  | 0 => rfl
  | 1 => rfl
  | 2 => rfl
  | 3 => rfl
  | 4 => rfl
  | 5 => rfl
  | 6 => rfl
  | 7 => rfl
  | i + 8 => rw [if_neg (by omega)]; rfl

theorem rd_set0 (v0 v1 v2 v3 v4 v5 v6 v7 v8 x : Value) (i : Nat) : (if i = 0 then x else rd v0 v1 v2 v3 v4 v5 v6 v7 v8 i) = rd x v1 v2 v3 v4 v5 v6 v7 v8 i := by
  match i with
  | 0 => rfl
  | 1 => rfl
  | 2 => rfl
  | 3 => rfl
  | 4 => rfl
  | 5 => rfl
  | 6 => rfl
  | 7 => rfl
  | i + 8 => rw [if_neg (by omega)]; rfl

theorem new_reader (ba da wa : Option Addr) (bl bc dl dc wl wc : Nat) (off sc need skip rec md : Int) (w : World) :
    Calls Try.prog 6 #[.slice ba bl bc, .int .i64 off, .int .i64 sc, .int .i64 need, .int .i64 skip, .slice da dl dc, .int .i64 rec, .int .i64 md, .slice wa wl wc] w fun e w' =>
      e = .returned (.pointer (some ⟨w.heap.size, 0, none⟩)) ∧ w'.rowIs w.heap.size 34 9 (rd (.slice ba bl bc) (.int .i64 off) (.int .i64 sc) (.int .i64 need) (.int .i64 skip) (.slice da dl dc) (.int .i64 rec) (.int .i64 md) (.slice wa wl wc)) ∧ Below w.heap.size w w' := by
  go_enter Try.func6, Try.ntmps6
  go_wp2
  go_ret
  exact ⟨rfl, row_nine _ _ _ _ _ _ _ _ _ _, (Below.refl _ _).alloc (Nat.le_refl _) _⟩

theorem below_drewN {B : Nat} {a w : World} (h : Below B a w) (n : Nat) : Below B a (w.drewN n) := ⟨h.os, h.tape, h.output, h.size, h.block⟩

theorem fill_block (R : Nat) (ba da : Option Addr) (bl bc dl dc : Nat) (rec n : Int) (off sc need skip md wds : Value) (w : World)
    (hr : w.rowIs R 34 9 (rd (.slice ba bl bc) off sc need skip (.slice da dl dc) (.int .i64 rec) md wds)) (hlt : rec < dl) (h0 : 0 ≤ rec) (hn : 0 ≤ n) (hn1 : rec + n ≤ 9223372036854775807) (hd : dl ≤ 1048576) :
    Calls Try.prog 7 #[.pointer (some ⟨R, 0, none⟩), .int .i64 n] w fun e w' =>
      e = .returned (.tuple #[]) ∧ w'.rowIs R 34 9 (rd (.slice ba bl bc) off sc need skip (.slice da dl dc) (.int .i64 (rec + n)) md wds) ∧ Below R w w' := by
  have c6 := hr.cell (show 6 < 9 by decide)
  have c5 := hr.cell (show 5 < 9 by decide)
  have f6 := hr.frozen 6
  simp only [rd] at c6 c5
  have HR := hidm hr
  clear hr
  go_enter Try.func7, Try.ntmps7
  go_wp2
  go_quiet (fail)
  go_wp2
  refine bodyPost_ret (results_none rfl _ _ _) rfl ?_
  exact ⟨rfl, (((HR.out.of_block (w' := w.drewN nq) rfl).set 6 _).congr (fun i _ => rd_set6 _ _ _ _ _ _ _ _ _ _ i)), (below_drewN (Below.refl R w) nq).setCell (Nat.le_refl _) _⟩

set_option maxHeartbeats 400000 in
theorem fill_buf (R : Nat) (b0 : Addr) (da : Option Addr) (bl bc dl dc m : Nat) (rec : Int) (off sc need skip md wds : Value) (w : World)
    (hr : w.rowIs R 34 9 (rd (.slice (some b0) bl bc) off sc need skip (.slice da dl dc) (.int .i64 rec) md wds)) (hlt : ¬ rec < dl) (hb : bl + m ≤ bc) (hbc : bc ≤ 1048576) :
    Calls Try.prog 7 #[.pointer (some ⟨R, 0, none⟩), .int .i64 m] w fun e w' =>
      e = .returned (.tuple #[]) ∧ w'.rowIs R 34 9 (rd (.slice (some b0) (bl + m) bc) off sc need skip (.slice da dl dc) (.int .i64 rec) md wds) ∧ Below R w w' := by
  have c6 := hr.cell (show 6 < 9 by decide)
  have c5 := hr.cell (show 5 < 9 by decide)
  have c0 := hr.cell (show 0 < 9 by decide)
  have f0 := hr.frozen 0
  simp only [rd] at c6 c5 c0
  have HR := hidm hr
  clear hr
  go_enter Try.func7, Try.ntmps7
  go_wp2
  go_quiet (fail)
  go_wp2
  go_region
  all_goals (
    go_end0
    exact ⟨rfl, (((HR.out.of_block (w' := w.drewN (nq + 1)) rfl).set 0 _).congr (fun i _ => rd_set0 _ _ _ _ _ _ _ _ _ _ i)), (below_drewN (Below.refl R w) (nq + 1)).setCell (Nat.le_refl _) _⟩)

set_option maxHeartbeats 400000 in
theorem fields (R : Nat) (v0 v1 v2 v3 v4 v5 v6 v7 v8 : Value) (w : World) (hr : w.rowIs R 34 9 (rd v0 v1 v2 v3 v4 v5 v6 v7 v8)) :
    Calls Try.prog 8 #[.pointer (some ⟨R, 0, none⟩)] w fun e w' => e = .returned (.tuple #[v0, v1, v2, v3, v4, v5, v6, v7, v8]) ∧ ∃ q, w' = w.drewN q := by
  have c0 := hr.cell (show 0 < 9 by decide)
  have c1 := hr.cell (show 1 < 9 by decide)
  have c2 := hr.cell (show 2 < 9 by decide)
  have c3 := hr.cell (show 3 < 9 by decide)
  have c4 := hr.cell (show 4 < 9 by decide)
  have c5 := hr.cell (show 5 < 9 by decide)
  have c6 := hr.cell (show 6 < 9 by decide)
  have c7 := hr.cell (show 7 < 9 by decide)
  have c8 := hr.cell (show 8 < 9 by decide)
  simp only [rd] at c0 c1 c2 c3 c4 c5 c6 c7 c8
  clear hr
  go_enter Try.func8, Try.ntmps8
  go_wp2
  go_quiet (fail)
  go_wp2
  exact bodyPost_ret (v := .tuple #[v0, v1, v2, v3, v4, v5, v6, v7, v8]) (by simp [results, Try.results8]) rfl ⟨rfl, nq, rfl⟩

set_option maxHeartbeats 400000 in
theorem same_any (a a' : Option Addr) (n c c' : Nat) (Z : Nat → Int) (w : World) (hn : n ≤ 1048576) (hnil : a.isNone = a'.isNone) (h1 : Row w a n (u8 Z)) (h2 : Row w a' n (u8 Z)) :
    Calls Try.prog 9 #[.slice a n c, .slice a' n c'] w fun e w' => e = .returned (.bool true) ∧ ∃ q, w' = w.drewN q := by
  have hq := eqNil
  have H1 := hidm h1
  have H2 := hidm h2
  have e1 : (a.isNone == a'.isNone) = true := by rw [hnil]; simp
  clear h1 h2 hnil
  go_enter Try.func9, Try.ntmps9
  go_wp2
  go_loopw [5] (fun i wr => ∃ k q : Nat, k ≤ n ∧ i = .int .i64 k ∧ wr = w.drewN q) (fun i _ => n - (intOf i).toNat)
  case atStart => exact ⟨0, 0, Nat.zero_le _, rfl, rfl⟩
  case round =>
    obtain ⟨k, q, hk, rfl, rfl⟩ := hrel
    by_cases hlt : k < n
    · rcases H1.out with hz | ⟨b, o, rfl, hb, hcell⟩
      · omega
      rcases H2.out with hz | ⟨b', o', rfl, hb', hcell'⟩
      · omega
      have hc1 : w.cell? ⟨b, o + k, none⟩ = some (.int .u8 (Z k)) := hcell k hlt
      have hc2 : w.cell? ⟨b', o' + k, none⟩ = some (.int .u8 (Z k)) := hcell' k hlt
      clear hcell hcell'
      go_wp2
      go_quiet (fail)
      go_wp2
      go_roundw
      case rel => exact ⟨k + 1, q + nq, by omega, by go_num, by first | rfl | simp [World.drewN, Nat.add_assoc]⟩
      case measure => simp [intOf]; omega
    · go_wp2
      go_ret
      exact ⟨rfl, q, rfl⟩
end Go.Proofs.Qxb6623438a.Seat
