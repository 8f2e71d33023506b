/- Seat b6623423a: the small functions. -/
import Derived.Test.Qxb6623423aRows
import Derived.WalkKit
import Derived.Deep.OwnRows
import Derived.Deep.QuietTactic
import Derived.BigQuiet
import Derived.RegionTactic
import Derived.WalkSpells
namespace Go.Proofs.Qxb6623423a.Seat
open Go.RowKit

theorem hidm {p : Prop} (h : p) : Hid p := h
theorem below_drewN {B : Nat} {a w : World} (h : Below B a w) (n : Nat) : Below B a (w.drewN n) := ⟨h.os, h.tape, h.output, h.size, h.block⟩
theorem ret_bool {a b : Bool} (h : a = b) : Ending.returned (.bool a) = .returned (.bool b) := by rw [h]

/-- Two strings are one: as the walk says it. -/
def eqS (x y : ByteArray) : Bool := x.toList == y.toList

/-- A bound moved. -/
def mv (f t x : ByteArray) : ByteArray := if eqS x f = true then t else x

theorem toSlice (lo hi : ByteArray) (w : World) :
    Calls Try.prog 14 #[.agg #[.string lo, .string hi]] w fun e w' => e = .returned (.agg #[.string lo, .string hi]) ∧ Below w.heap.size w w' := by
  go_enter Try.func14, Try.ntmps14
  go_wp2
  exact bodyPost_ret (v := .agg #[.string lo, .string hi]) (by simp [results, Try.results14, go_sem]) rfl ⟨rfl, (((Below.refl _ _).alloc (Nat.le_refl _) _).alloc (by simp) _).alloc (by simp; omega) _⟩

theorem touches (lo hi x : ByteArray) (w : World) :
    Calls Try.prog 13 #[.agg #[.string lo, .string hi], .string x] w fun e w' => e = .returned (.bool (eqS lo x || eqS hi x)) ∧ Below w.heap.size w w' := by
  by_cases h1 : (lo.toList == x.toList) = true
  · go_enter Try.func13, Try.ntmps13
    go_wp2
    go_ret
    exact ⟨ret_bool (by simp only [eqS, h1, Bool.true_or]), (Below.refl _ _).alloc (Nat.le_refl _) _⟩
  · have h1' : (lo.toList == x.toList) = false := by simpa using h1
    clear h1
    go_enter Try.func13, Try.ntmps13
    go_wp2
    go_ret
    exact ⟨ret_bool (by simp only [eqS, h1', Bool.false_or]), (Below.refl _ _).alloc (Nat.le_refl _) _⟩

theorem same (lo hi lo' hi' : ByteArray) (w : World) :
    Calls Try.prog 18 #[.agg #[.string lo, .string hi], .agg #[.string lo', .string hi']] w fun e w' => e = .returned (.bool (eqS lo lo' && eqS hi hi')) ∧ Below w.heap.size w w' := by
  by_cases h1 : (lo.toList == lo'.toList) = true
  · go_enter Try.func18, Try.ntmps18
    go_wp2
    go_ret
    exact ⟨ret_bool (by simp only [eqS, h1, Bool.true_and]), ((Below.refl _ _).alloc (Nat.le_refl _) _).alloc (by simp) _⟩
  · have h1' : (lo.toList == lo'.toList) = false := by simpa using h1
    clear h1
    go_enter Try.func18, Try.ntmps18
    go_wp2
    go_ret
    exact ⟨ret_bool (by simp only [eqS, h1', Bool.false_and]), ((Below.refl _ _).alloc (Nat.le_refl _) _).alloc (by simp) _⟩

/-- zzWant where nothing is to move. -/
theorem want (lo hi f t : ByteArray) (w : World) :
    Calls Try.prog 19 #[.agg #[.string lo, .string hi], .string f, .string t, .bool false] w fun e w' => e = .returned (.agg #[.string lo, .string hi]) ∧ Below w.heap.size w w' := by
  go_enter Try.func19, Try.ntmps19
  go_wp2
  exact bodyPost_ret (v := .agg #[.string lo, .string hi]) (by simp [results, Try.results19, go_sem]) rfl ⟨rfl, ((Below.refl _ _).alloc (Nat.le_refl _) _).alloc (by simp) _⟩

/-- Did a pair move? -/
def chg (f t lo hi : ByteArray) : Bool := !(eqS (mv f t lo) lo && eqS (mv f t hi) hi)

theorem neq37 (a b c d : ByteArray) (w : World) : (binOp .neq 37 (.agg #[.string a, .string b]) (.agg #[.string c, .string d])).run Try.prog w = .ok (.bool (!(eqS a c && eqS b d))) w := by
  by_cases h1 : a.toList = c.toList <;> by_cases h2 : b.toList = d.toList <;> simp [go_sem, eqS, h1, h2, Try.underlying37]

set_option maxHeartbeats 400000 in
theorem moved (lo hi f t : ByteArray) (w : World) :
    Calls Try.prog 23 #[.agg #[.string lo, .string hi], .string f, .string t] w fun e w' => e = .returned (.tuple #[.agg #[.string (mv f t lo), .string (mv f t hi)], .bool (chg f t lo hi)]) ∧ Below w.heap.size w w' := by
  have hne := neq37
  by_cases h1 : (lo.toList == f.toList) = true <;> by_cases h2 : (hi.toList == f.toList) = true
  all_goals (
    go_enter Try.func23, Try.ntmps23
    go_wp2
    go_region
    go_wp2
    exact bodyPost_ret (v := .tuple #[.agg #[.string (mv f t lo), .string (mv f t hi)], .bool (chg f t lo hi)]) (by simp [results, Try.results23, go_sem, mv, eqS, chg, h1, h2]) rfl ⟨rfl, ((((Below.refl _ _).alloc (Nat.le_refl _) _).alloc (by simp) _).alloc (by simp; omega) _).drew⟩)

/-- zzAdd. -/
def zadd (n k : Int) : Int := if 1048576 < n ∨ 1048576 < k then 1048577 else wrap64 (n + k)

theorem add_any (n k : Int) (w : World) : Calls Try.prog 11 #[.int .i64 n, .int .i64 k] w fun e w' => e = .returned (.int .i64 (zadd n k)) ∧ w' = w := by
  by_cases h1 : 1048576 < n
  · go_enter Try.func11, Try.ntmps11
    go_wp2
    go_ret
    exact ⟨by simp [zadd, h1], rfl⟩
  · by_cases h2 : 1048576 < k
    · go_enter Try.func11, Try.ntmps11
      go_wp2
      go_ret
      exact ⟨by simp [zadd, h2], rfl⟩
    · have hz : zadd n k = wrap64 (n + k) := by rw [zadd, if_neg (by omega)]
      have HZ := hidm hz
      clear hz
      go_enter Try.func11, Try.ntmps11
      go_wp2
      go_ret
      exact ⟨by rw [HZ.out]; rfl, rfl⟩

/-- zzSliceBytes: some number. -/
def sbytes (n : Int) (lo hi : ByteArray) : Int := zadd (zadd n lo.size) hi.size

set_option maxHeartbeats 400000 in
theorem slice_bytes (n : Int) (lo hi : ByteArray) (w : World) : Calls Try.prog 12 #[.int .i64 n, .agg #[.string lo, .string hi]] w fun e w' => e = .returned (.int .i64 (sbytes n lo hi)) ∧ Below w.heap.size w w' := by
  go_enter Try.func12, Try.ntmps12
  go_wp2
  go_quiet ((go_at_call 11; exact Calls.quiet_of_same (add_any _ _ _)))
  go_wp2
  go_ret
  exact ⟨rfl, below_drewN ((Below.refl _ _).alloc (Nat.le_refl _) _) _⟩
end Go.Proofs.Qxb6623423a.Seat
