/- Seat b6623423a: zzEntryMatches at two entries of one content. -/
import Derived.Test.Qxb6623423aSeatBox
import Derived.Deep.RegionWith
import Derived.Deep.RegionHeld3
namespace Go.Proofs.Qxb6623423a.Seat
open Go.RowKit

/-- An entry's cells. -/
def entC (E : Ent) (ca sa : Option Addr) (cc sc : Nat) : Array Value := #[.string E.peer, .string E.lo, .string E.hi, .string E.plo, .string E.phi, .slice ca E.cn cc, .slice sa E.sn sc]

theorem eqS_refl (x : ByteArray) : eqS x x = true := by simp [eqS]

/-- zzSame of two equal pairs; the world written out. -/
theorem same_x (lo hi : ByteArray) (w : World) :
    Calls Try.prog 18 #[.agg #[.string lo, .string hi], .agg #[.string lo, .string hi]] w fun e w' => e = .returned (.bool true) ∧ ∃ c1 c2 : Array Value, w' = (w.alloc (.cells c1 37)).alloc (.cells c2 25) := by
  go_enter Try.func18, Try.ntmps18
  go_wp2
  go_ret
  exact ⟨rfl, _, _, rfl⟩
theorem want_x (lo hi f t : ByteArray) (w : World) :
    Calls Try.prog 19 #[.agg #[.string lo, .string hi], .string f, .string t, .bool false] w fun e w' => e = .returned (.agg #[.string lo, .string hi]) ∧ ∃ c1 c2 : Array Value, w' = (w.alloc (.cells c1 25)).alloc (.cells c2 25) := by
  go_enter Try.func19, Try.ntmps19
  go_wp2
  exact bodyPost_ret (v := .agg #[.string lo, .string hi]) (by simp [results, Try.results19, go_sem]) rfl ⟨rfl, _, _, rfl⟩

theorem eqNil77 (a : Option Addr) (n c : Nat) (w : World) : (binOp .eql 77 (.slice a n c) (.slice none 0 0)).run Try.prog w = .ok (.bool a.isNone) w := Lib.run_eql_slice_nil w 77 _ a n c 0 0 Try.underlying77
theorem eqNil78 (a : Option Addr) (n c : Nat) (w : World) : (binOp .eql 78 (.slice a n c) (.slice none 0 0)).run Try.prog w = .ok (.bool a.isNone) w := Lib.run_eql_slice_nil w 78 _ a n c 0 0 Try.underlying78
theorem eqNil56 (a : Option Addr) (n c : Nat) (w : World) : (binOp .eql 56 (.slice a n c) (.slice none 0 0)).run Try.prog w = .ok (.bool a.isNone) w := Lib.run_eql_slice_nil w 56 _ a n c 0 0 Try.underlying56
theorem eqNil57 (a : Option Addr) (n c : Nat) (w : World) : (binOp .eql 57 (.slice a n c) (.slice none 0 0)).run Try.prog w = .ok (.bool a.isNone) w := Lib.run_eql_slice_nil w 57 _ a n c 0 0 Try.underlying57

/-- Two entries in their boxes, and nothing older has turned. -/
def InE (w : World) (E : Ent) (ca sa ca' sa' : Option Addr) (cc sc cc' sc' : Nat) (wr : World) : Prop :=
  Below (w.heap.size + 2) ((w.alloc (.cells (entC E ca sa cc sc) 80)).alloc (.cells (entC E ca' sa' cc' sc') 59)) wr

section
variable {w : World} {E : Ent} {ca sa ca' sa' : Option Addr} {cc sc cc' sc' : Nat} {wr w2 : World}

theorem entCells_of {N : Nat} {t : TypeId} (h : wr.heap[N]? = some (.cells (entC E ca sa cc sc) t (0, 0))) : EntCells wr N 0 E ca sa cc sc := by
  unfold EntCells
  simp only [cells_box h]
  exact ⟨rfl, rfl, rfl, rfl, rfl, rfl, rfl⟩
theorem InE.below (h : InE w E ca sa ca' sa' cc sc cc' sc' wr) : Below w.heap.size w wr :=
  (((Below.refl _ _).alloc (Nat.le_refl _) _).alloc (by simp) _).trans (Below.mono h (by omega))
theorem InE.size (h : InE w E ca sa ca' sa' cc sc cc' sc' wr) : w.heap.size + 2 ≤ wr.heap.size := by
  have h1 := Below.size h
  have h2 : ((w.alloc (.cells (entC E ca sa cc sc) 80)).alloc (.cells (entC E ca' sa' cc' sc') 59)).heap.size = w.heap.size + 2 := by simp
  omega
theorem InE.next (h : InE w E ca sa ca' sa' cc sc cc' sc' wr) (hb : Below wr.heap.size wr w2) : InE w E ca sa ca' sa' cc sc cc' sc' w2 := Below.trans h (hb.mono h.size)
theorem InE.drewN (h : InE w E ca sa ca' sa' cc sc cc' sc' wr) (n : Nat) : InE w E ca sa ca' sa' cc sc cc' sc' (wr.drewN n) := below_drewN h n
theorem InE.box1 (h : InE w E ca sa ca' sa' cc sc cc' sc' wr) : EntCells wr w.heap.size 0 E ca sa cc sc := by
  refine entCells_of (t := 80) ((Below.block h _ (by omega)).trans ?_)
  rw [Below.heap_alloc _ _ _ (by simp)]
  exact heap_alloc_new w _
theorem InE.box2 (h : InE w E ca sa ca' sa' cc sc cc' sc' wr) : EntCells wr (w.heap.size + 1) 0 E ca' sa' cc' sc' := by
  refine entCells_of (t := 59) ((Below.block h _ (by omega)).trans ?_)
  have := heap_alloc_new (w.alloc (.cells (entC E ca sa cc sc) 80)) (.cells (entC E ca' sa' cc' sc') 59)
  simpa using this
end

set_option maxRecDepth 100000 in
set_option maxHeartbeats 4000000 in
theorem entry_matches (E : Ent) (ca sa ca' sa' : Option Addr) (cc sc cc' sc' : Nat) (f t : ByteArray) (w : World) (h1 : EntIn w ca sa E) (h2 : EntIn w ca' sa' E) (hcn : E.cn ≤ 1048576) (hsn : E.sn ≤ 1048576) :
    Calls Try.prog 25 #[.agg #[.string E.peer, .string E.lo, .string E.hi, .string E.plo, .string E.phi, .slice ca E.cn cc, .slice sa E.sn sc], .agg #[.string E.peer, .string E.lo, .string E.hi, .string E.plo, .string E.phi, .slice ca' E.cn cc', .slice sa' E.sn sc'], .string f, .string t, .bool false] w fun e w' => e = .returned (.bool true) ∧ Below w.heap.size w w' := by
  have n1 := eqNil77
  have n2 := eqNil78
  have n3 := eqNil56
  have n4 := eqNil57
  have H1 := hidm h1
  have H2 := hidm h2
  have z1 : (ca.isNone == ca'.isNone) = true := by rw [h1.1, h2.1]; simp
  have z2 : (sa.isNone == sa'.isNone) = true := by rw [h1.2.1, h2.2.1]; simp
  clear h1 h2
  go_enter Try.func25, Try.ntmps25
  go_wp2
  go_region_held3 (fun w' => w'.cell? ⟨w.heap.size, 1, none⟩ = some (.string E.lo) ∧ w'.cell? ⟨w.heap.size, 2, none⟩ = some (.string E.hi) ∧ w'.cell? ⟨w.heap.size, 3, none⟩ = some (.string E.plo) ∧ w'.cell? ⟨w.heap.size, 4, none⟩ = some (.string E.phi) ∧ w'.cell? ⟨w.heap.size + 1, 1, none⟩ = some (.string E.lo) ∧ w'.cell? ⟨w.heap.size + 1, 2, none⟩ = some (.string E.hi) ∧ w'.cell? ⟨w.heap.size + 1, 3, none⟩ = some (.string E.plo) ∧ w'.cell? ⟨w.heap.size + 1, 4, none⟩ = some (.string E.phi)) (simp [go_sem, World.cell?_alloc_past])
    (first | (go_at_call 19; refine (want_x _ _ _ _ _).mono ?_; rintro e w1 ⟨rfl, o1, o2, rfl⟩) | (go_at_call 18; refine (same_x _ _ _).mono ?_; rintro e w2 ⟨rfl, o3, o4, rfl⟩))
  go_wp2
  go_loopw [11] (fun i wr => ∃ k : Nat, k ≤ E.cn ∧ i = .int .i64 k ∧ InE w E ca sa ca' sa' cc sc cc' sc' wr) (fun i _ => E.cn - (intOf i).toNat)
  case atStart =>
    refine ⟨0, Nat.zero_le _, rfl, ?_⟩
    refine Below.drew ?_
    repeat (first | exact Below.refl _ _ | (refine Below.alloc ?_ (by simp; try omega) _))
  case round =>
    obtain ⟨k, hk, rfl, hbr⟩ := hrel
    obtain ⟨_, _, _, _, _, p5, _⟩ := hbr.box1
    obtain ⟨_, _, _, _, _, q5, _⟩ := hbr.box2
    simp only [Nat.zero_add] at p5 q5
    by_cases hkn : k < E.cn
    · rcases (H1.out.below hbr.below).2.2.1 with hz | ⟨b1, o1, rfl, hb1, hc1⟩
      · omega
      rcases (H2.out.below hbr.below).2.2.1 with hz | ⟨b2, o2, rfl, hb2, hc2⟩
      · omega
      have f1 := hc1 k hkn
      have f2 := hc2 k hkn
      clear hc1 hc2
      go_wp2
      go_quiet (fail)
      go_wp2
      go_roundw
      case rel => exact ⟨k + 1, by omega, by go_num, hbr.drewN _⟩
      case measure => simp [intOf]; omega
    · obtain ⟨_, _, _, _, _, _, p6⟩ := hbr.box1
      obtain ⟨_, _, _, _, _, _, q6⟩ := hbr.box2
      simp only [Nat.zero_add] at p6 q6
      go_wp2
      go_loopw [12] (fun i wr => ∃ k : Nat, k ≤ E.sn ∧ i = .int .i64 k ∧ InE w E ca sa ca' sa' cc sc cc' sc' wr) (fun i _ => E.sn - (intOf i).toNat)
      case atStart => exact ⟨0, Nat.zero_le _, rfl, hbr⟩
      case round =>
        clear p5 q5 p6 q6 hbr
        obtain ⟨k, hk, rfl, hbr⟩ := hrel
        obtain ⟨_, _, _, _, _, _, p6⟩ := hbr.box1
        obtain ⟨_, _, _, _, _, _, q6⟩ := hbr.box2
        simp only [Nat.zero_add] at p6 q6
        by_cases hkn : k < E.sn
        · rcases (H1.out.below hbr.below).2.2.2 with hz | ⟨b1, o1, rfl, hb1, hc1⟩
          · omega
          rcases (H2.out.below hbr.below).2.2.2 with hz | ⟨b2, o2, rfl, hb2, hc2⟩
          · omega
          obtain ⟨f1, f2⟩ := hc1 k hkn
          obtain ⟨g1, g2⟩ := hc2 k hkn
          clear hc1 hc2
          have hz1 : w.heap.size < wr.heap.size := by have := hbr.size; omega
          have hz2 : w.heap.size + 1 < wr.heap.size := by have := hbr.size; omega
          go_wp2
          go_region_held3 (fun w' => w'.cell? ⟨w.heap.size, 6, none⟩ = some (.slice (some ⟨b1, o1, none⟩) E.sn sc) ∧ w'.cell? ⟨w.heap.size + 1, 6, none⟩ = some (.slice (some ⟨b2, o2, none⟩) E.sn sc') ∧ w'.cell? ⟨b1, o1 + k * 2, none⟩ = some (.string (E.slo k)) ∧ w'.cell? ⟨b1, o1 + k * 2 + 1, none⟩ = some (.string (E.shi k)) ∧ w'.cell? ⟨b2, o2 + k * 2, none⟩ = some (.string (E.slo k)) ∧ w'.cell? ⟨b2, o2 + k * 2 + 1, none⟩ = some (.string (E.shi k))) ((refine (fun (hb : Below wr.heap.size wr _) => ⟨(hb.cell (by exact hz1)).trans p6, (hb.cell (by exact hz2)).trans q6, (hb.cell (by exact hb1)).trans f1, (hb.cell (by exact hb1)).trans f2, (hb.cell (by exact hb2)).trans g1, (hb.cell (by exact hb2)).trans g2⟩) ?_; repeat (first | exact Below.refl _ _ | apply Below.drew | (refine Below.alloc ?_ (by simp; try omega) _))))
            (first | (go_at_call 19; refine (want_x _ _ _ _ _).mono ?_; rintro e w1 ⟨rfl, x1, x2, rfl⟩) | (go_at_call 18; refine (same_x _ _ _).mono ?_; rintro e w2 ⟨rfl, x3, x4, rfl⟩))
          go_wp2
          go_roundw
          case rel =>
            (repeat apply Exists.intro)
            refine ⟨⟨k + 1, by omega, by go_num, hbr.next ?_⟩, rfl⟩
            repeat (first | exact Below.refl _ _ | apply Below.drew | (refine Below.alloc ?_ (by simp; try omega) _))
          case measure => simp [intOf]; omega
        · go_wp2
          go_ret
          exact ⟨rfl, hbr.below⟩
end Go.Proofs.Qxb6623423a.Seat
