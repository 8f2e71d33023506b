/- Seat b6623423a: the copy, in memory of its own; each block has a key. -/
import Derived.Test.Qxb6623423aSeatFind
namespace Go.Proofs.Qxb6623423a.Seat
open Go.RowKit

inductive Key where
  | other
  | place
  | slots
  | tab
  | row (s i : Nat)
  | urow (s i : Nat)

/-- All blocks but those of keys in Q are as they were. -/
structure Kp (K : Nat → Key) (Q : Key → Prop) (w w' : World) : Prop where
  os : w'.os = w.os
  tape : w'.tape = w.tape
  output : w'.output = w.output
  size : w.heap.size ≤ w'.heap.size
  block : ∀ b, b < w.heap.size → ¬ Q (K b) → w'.heap[b]? = w.heap[b]?

section
variable {K K' : Nat → Key} {Q Q' : Key → Prop} {w w' w'' : World}
theorem Kp.refl : Kp K Q w w := ⟨rfl, rfl, rfl, Nat.le_refl _, fun _ _ _ => rfl⟩
theorem Kp.trans (h : Kp K Q w w') (k : Kp K Q w' w'') : Kp K Q w w'' :=
  ⟨k.os.trans h.os, k.tape.trans h.tape, k.output.trans h.output, Nat.le_trans h.size k.size, fun b hb hq => (k.block b (Nat.lt_of_lt_of_le hb h.size) hq).trans (h.block b hb hq)⟩
theorem Kp.mono (h : Kp K Q w w') (hQ : ∀ q, Q q → Q' q) : Kp K Q' w w' := ⟨h.os, h.tape, h.output, h.size, fun b hb hq => h.block b hb (fun x => hq (hQ _ x))⟩
theorem Kp.of (h : Below w.heap.size w w') : Kp K Q w w' := ⟨h.os, h.tape, h.output, h.size, fun b hb _ => h.block b hb⟩
theorem Kp.cell (h : Kp K Q w w') {p : Addr} (hp : p.block < w.heap.size) (hq : ¬ Q (K p.block)) : w'.cell? p = w.cell? p := World.cell?_of_block (h.block _ hp hq)
theorem Kp.frozen (h : Kp K Q w w') {p : Addr} (hp : p.block < w.heap.size) (hq : ¬ Q (K p.block)) : w'.frozen? p = w.frozen? p := World.frozen?_of_block (h.block _ hp hq)
theorem Kp.set (h : Kp K Q w w') {p : Addr} (hq : Q (K p.block)) (v : Value) : Kp K Q w (w'.setCell p v) :=
  h.trans ⟨rfl, rfl, rfl, by simp [World.setCell], fun b _ hb => Below.heap_setCell _ _ _ _ (fun e => hb (e ▸ hq))⟩
theorem Kp.below {B : Nat} (h : Kp K Q w w') (hB : B ≤ w.heap.size) (hK : ∀ b, b < B → ¬ Q (K b)) : Below B w w' :=
  ⟨h.os, h.tape, h.output, h.size, fun b hb => h.block b (by omega) (hK b hb)⟩
end

/-- Only the cells o .. o + n - 1 of block g have turned. -/
structure Only (g o n : Nat) (w w' : World) : Prop where
  os : w'.os = w.os
  tape : w'.tape = w.tape
  output : w'.output = w.output
  size : w.heap.size ≤ w'.heap.size
  block : ∀ b, b < w.heap.size → b ≠ g → w'.heap[b]? = w.heap[b]?
  cell : ∀ i, i < o ∨ o + n ≤ i → w'.cell? ⟨g, i, none⟩ = w.cell? ⟨g, i, none⟩
  frozen : ∀ i, w'.frozen? ⟨g, i, none⟩ = w.frozen? ⟨g, i, none⟩

section
variable {K : Nat → Key} {g o n : Nat} {w w' w'' : World}
theorem Only.refl : Only g o n w w := ⟨rfl, rfl, rfl, Nat.le_refl _, fun _ _ _ => rfl, fun _ _ => rfl, fun _ => rfl⟩
theorem Only.trans (h : Only g o n w w') (k : Only g o n w' w'') : Only g o n w w'' :=
  ⟨k.os.trans h.os, k.tape.trans h.tape, k.output.trans h.output, Nat.le_trans h.size k.size, fun b hb hq => (k.block b (Nat.lt_of_lt_of_le hb h.size) hq).trans (h.block b hb hq),
    fun i hi => (k.cell i hi).trans (h.cell i hi), fun i => (k.frozen i).trans (h.frozen i)⟩
theorem Only.of (h : Below w.heap.size w w') (hg : g < w.heap.size) : Only g o n w w' :=
  ⟨h.os, h.tape, h.output, h.size, fun b hb _ => h.block b hb, fun _ _ => h.cell (by exact hg), fun _ => h.frozen (by exact hg)⟩
theorem Only.set (h : Only g o n w w') {i : Nat} (h1 : o ≤ i) (h2 : i < o + n) (v : Value) : Only g o n w (w'.setCell ⟨g, i, none⟩ v) :=
  h.trans ⟨rfl, rfl, rfl, by simp [World.setCell], fun b _ hb => Below.heap_setCell _ _ _ _ hb, fun j hj => World.cell?_setCell_other _ _ _ _ (by intro e; injection e with _ e2; omega), fun _ => World.frozen?_setCell _ _ _ _⟩
theorem Only.kp (h : Only g o n w w') : Kp K (· = K g) w w' := ⟨h.os, h.tape, h.output, h.size, fun b hb hq => h.block b hb (fun e => hq (by rw [e]))⟩
theorem Only.other (h : Only g o n w w') {p : Addr} (hp : p.block < w.heap.size) (hne : p.block ≠ g) : w'.cell? p = w.cell? p := World.cell?_of_block (h.block _ hp hne)
end

/-- A block that no mark freezes. -/
def Unf (w : World) (b : Nat) : Prop := ∀ i, w.frozen? ⟨b, i, none⟩ = false

def LeafS (K : Nat → Key) (w : World) (a : Option Addr) (n : Nat) (f : Nat → ByteArray) : Prop :=
  n = 0 ∨ ∃ b, a = some ⟨b, 0, none⟩ ∧ b < w.heap.size ∧ K b = .other ∧ ∀ j, j < n → w.cell? ⟨b, j, none⟩ = some (.string (f j))

def LeafP (K : Nat → Key) (w : World) (a : Option Addr) (n : Nat) (lo hi : Nat → ByteArray) : Prop :=
  n = 0 ∨ ∃ b, a = some ⟨b, 0, none⟩ ∧ b < w.heap.size ∧ K b = .other ∧ ∀ j, j < n → w.cell? ⟨b, j * 2, none⟩ = some (.string (lo j)) ∧ w.cell? ⟨b, j * 2 + 1, none⟩ = some (.string (hi j))

def EntOwn (K : Nat → Key) (w : World) (b o : Nat) (E : Ent) : Prop :=
  ∃ ca sa cc sc, EntCells w b o E ca sa cc sc ∧ ca.isNone = E.cnil ∧ sa.isNone = E.snil ∧ LeafS K w ca E.cn E.ch ∧ LeafP K w sa E.sn E.slo E.shi

def RowOwn (K : Nat → Key) (s i : Nat) (w : World) (a : Option Addr) (R : RowE) : Prop :=
  a.isNone = R.isnil ∧ (R.n = 0 ∨ ∃ b, a = some ⟨b, 0, none⟩ ∧ b < w.heap.size ∧ K b = .row s i ∧ Unf w b ∧ ∀ d, d < R.n → EntOwn K w b (d * 7) (R.e d))

def TabOwn (K : Nat → Key) (s : Nat) (w : World) (a : Option Addr) (T : TabE) : Prop :=
  a.isNone = T.isnil ∧ (T.n = 0 ∨ ∃ b, a = some ⟨b, 0, none⟩ ∧ b < w.heap.size ∧ K b = .tab ∧ ∀ i, i < T.n → ∃ ra rc, w.cell? ⟨b, i, none⟩ = some (.slice ra (T.r i).n rc) ∧ RowOwn K s i w ra (T.r i))

/-- A subtree's three cells. -/
def SubCells (w : World) (b o : Nat) (u : Sub) : Prop :=
  w.cell? ⟨b, o, none⟩ = some (.string u.peer) ∧ w.cell? ⟨b, o + 1, none⟩ = some (.string u.lo) ∧ w.cell? ⟨b, o + 2, none⟩ = some (.string u.hi)

def RowUOwn (K : Nat → Key) (s i : Nat) (w : World) (a : Option Addr) (R : RowU) : Prop :=
  a.isNone = R.isnil ∧ (R.n = 0 ∨ ∃ b, a = some ⟨b, 0, none⟩ ∧ b < w.heap.size ∧ K b = .urow s i ∧ Unf w b ∧ ∀ d, d < R.n → SubCells w b (d * 3) (R.u d))

def TabUOwn (K : Nat → Key) (s : Nat) (w : World) (a : Option Addr) (T : TabU) : Prop :=
  a.isNone = T.isnil ∧ (T.n = 0 ∨ ∃ b, a = some ⟨b, 0, none⟩ ∧ b < w.heap.size ∧ K b = .tab ∧ ∀ i, i < T.n → ∃ ra rc, w.cell? ⟨b, i, none⟩ = some (.slice ra (T.r i).n rc) ∧ RowUOwn K s i w ra (T.r i))

def SltOwn (K : Nat → Key) (w : World) (a : Option Addr) (n : Nat) (f : Nat → Slt) : Prop :=
  n = 0 ∨ ∃ b, a = some ⟨b, 0, none⟩ ∧ b < w.heap.size ∧ K b = .slots ∧ Unf w b ∧ ∀ j, j < n → SltCells w b (j * 5) (f j)

section
variable {K K' : Nat → Key} {Q : Key → Prop} {w w' : World}

theorem Unf.kp {b : Nat} (h : Unf w b) (hk : Kp K Q w w') (hb : b < w.heap.size) (hq : ¬ Q (K b)) : Unf w' b := fun i => (hk.frozen (by exact hb) (by exact hq)).trans (h i)

theorem LeafS.go {a : Option Addr} {n : Nat} {f : Nat → ByteArray} (h : LeafS K w a n f) (hk : Kp K Q w w') (hq : ¬ Q .other) (hK : ∀ b, b < w.heap.size → K' b = K b) : LeafS K' w' a n f := by
  rcases h with h | ⟨b, rfl, hb, hkb, hc⟩
  · exact Or.inl h
  · exact Or.inr ⟨b, rfl, Nat.lt_of_lt_of_le hb hk.size, (hK b hb).trans hkb, fun j hj => (hk.cell (by exact hb) (by rw [hkb]; exact hq)).trans (hc j hj)⟩

theorem LeafP.go {a : Option Addr} {n : Nat} {lo hi : Nat → ByteArray} (h : LeafP K w a n lo hi) (hk : Kp K Q w w') (hq : ¬ Q .other) (hK : ∀ b, b < w.heap.size → K' b = K b) : LeafP K' w' a n lo hi := by
  rcases h with h | ⟨b, rfl, hb, hkb, hc⟩
  · exact Or.inl h
  · exact Or.inr ⟨b, rfl, Nat.lt_of_lt_of_le hb hk.size, (hK b hb).trans hkb, fun j hj => ⟨(hk.cell (by exact hb) (by rw [hkb]; exact hq)).trans (hc j hj).1, (hk.cell (by exact hb) (by rw [hkb]; exact hq)).trans (hc j hj).2⟩⟩

theorem EntOwn.go' {b o : Nat} {E : Ent} (h : EntOwn K w b o E) (hk : Kp K Q w w') (hq : ¬ Q .other) (hK : ∀ b, b < w.heap.size → K' b = K b) (e : ∀ i, o ≤ i → i < o + 7 → w'.cell? ⟨b, i, none⟩ = w.cell? ⟨b, i, none⟩) : EntOwn K' w' b o E := by
  obtain ⟨ca, sa, cc, sc, ⟨c0, c1, c2, c3, c4, c5, c6⟩, h1, h2, h3, h4⟩ := h
  exact ⟨ca, sa, cc, sc, ⟨(e _ (by omega) (by omega)).trans c0, (e _ (by omega) (by omega)).trans c1, (e _ (by omega) (by omega)).trans c2, (e _ (by omega) (by omega)).trans c3, (e _ (by omega) (by omega)).trans c4, (e _ (by omega) (by omega)).trans c5, (e _ (by omega) (by omega)).trans c6⟩, h1, h2, h3.go hk hq hK, h4.go hk hq hK⟩

theorem RowOwn.go {s i : Nat} {a : Option Addr} {R : RowE} (h : RowOwn K s i w a R) (hk : Kp K Q w w') (hq : ¬ Q .other) (hr : ¬ Q (.row s i)) (hK : ∀ b, b < w.heap.size → K' b = K b) : RowOwn K' s i w' a R := by
  refine ⟨h.1, ?_⟩
  rcases h.2 with h | ⟨b, rfl, hb, hkb, hu, hc⟩
  · exact Or.inl h
  · have hqb : ¬ Q (K b) := by rw [hkb]; exact hr
    exact Or.inr ⟨b, rfl, Nat.lt_of_lt_of_le hb hk.size, (hK b hb).trans hkb, hu.kp hk hb hqb, fun d hd => (hc d hd).go' hk hq hK (fun i _ _ => hk.cell (by exact hb) (by exact hqb))⟩

theorem TabOwn.go {s : Nat} {a : Option Addr} {T : TabE} (h : TabOwn K s w a T) (hk : Kp K Q w w') (hq : ¬ Q .other) (ht : ¬ Q .tab) (hr : ∀ i, ¬ Q (.row s i)) (hK : ∀ b, b < w.heap.size → K' b = K b) : TabOwn K' s w' a T := by
  refine ⟨h.1, ?_⟩
  rcases h.2 with h | ⟨b, rfl, hb, hkb, hc⟩
  · exact Or.inl h
  · refine Or.inr ⟨b, rfl, Nat.lt_of_lt_of_le hb hk.size, (hK b hb).trans hkb, fun i hi => ?_⟩
    obtain ⟨ra, rc, h1, h2⟩ := hc i hi
    exact ⟨ra, rc, (hk.cell (by exact hb) (by rw [hkb]; exact ht)).trans h1, h2.go hk hq (hr i) hK⟩

theorem RowUOwn.go {s i : Nat} {a : Option Addr} {R : RowU} (h : RowUOwn K s i w a R) (hk : Kp K Q w w') (hr : ¬ Q (.urow s i)) (hK : ∀ b, b < w.heap.size → K' b = K b) : RowUOwn K' s i w' a R := by
  refine ⟨h.1, ?_⟩
  rcases h.2 with h | ⟨b, rfl, hb, hkb, hu, hc⟩
  · exact Or.inl h
  · have hqb : ¬ Q (K b) := by rw [hkb]; exact hr
    have e : ∀ i, w'.cell? ⟨b, i, none⟩ = w.cell? ⟨b, i, none⟩ := fun i => hk.cell (by exact hb) (by exact hqb)
    exact Or.inr ⟨b, rfl, Nat.lt_of_lt_of_le hb hk.size, (hK b hb).trans hkb, hu.kp hk hb hqb, fun d hd => ⟨(e _).trans (hc d hd).1, (e _).trans (hc d hd).2.1, (e _).trans (hc d hd).2.2⟩⟩

theorem TabUOwn.go {s : Nat} {a : Option Addr} {T : TabU} (h : TabUOwn K s w a T) (hk : Kp K Q w w') (ht : ¬ Q .tab) (hr : ∀ i, ¬ Q (.urow s i)) (hK : ∀ b, b < w.heap.size → K' b = K b) : TabUOwn K' s w' a T := by
  refine ⟨h.1, ?_⟩
  rcases h.2 with h | ⟨b, rfl, hb, hkb, hc⟩
  · exact Or.inl h
  · refine Or.inr ⟨b, rfl, Nat.lt_of_lt_of_le hb hk.size, (hK b hb).trans hkb, fun i hi => ?_⟩
    obtain ⟨ra, rc, h1, h2⟩ := hc i hi
    exact ⟨ra, rc, (hk.cell (by exact hb) (by rw [hkb]; exact ht)).trans h1, h2.go hk (hr i) hK⟩

theorem SltOwn.go {a : Option Addr} {n : Nat} {f : Nat → Slt} (h : SltOwn K w a n f) (hk : Kp K Q w w') (hq : ¬ Q .slots) (hK : ∀ b, b < w.heap.size → K' b = K b) : SltOwn K' w' a n f := by
  rcases h with h | ⟨b, rfl, hb, hkb, hu, hc⟩
  · exact Or.inl h
  · have hqb : ¬ Q (K b) := by rw [hkb]; exact hq
    exact Or.inr ⟨b, rfl, Nat.lt_of_lt_of_le hb hk.size, (hK b hb).trans hkb, hu.kp hk hb hqb, fun j hj => (hc j hj).of (fun i => hk.cell (by exact hb) (by exact hqb))⟩

/-! ### Owned is there to be read. -/
theorem LeafS.row {a : Option Addr} {n : Nat} {f : Nat → ByteArray} (h : LeafS K w a n f) : StrRow w a n f := by
  rcases h with h | ⟨b, rfl, hb, _, hc⟩
  · exact Or.inl h
  · exact Or.inr ⟨b, 0, rfl, hb, fun j hj => by rw [Nat.zero_add]; exact hc j hj⟩
theorem LeafP.row {a : Option Addr} {n : Nat} {lo hi : Nat → ByteArray} (h : LeafP K w a n lo hi) : PairRow w a n lo hi := by
  rcases h with h | ⟨b, rfl, hb, _, hc⟩
  · exact Or.inl h
  · exact Or.inr ⟨b, 0, rfl, hb, fun j hj => by rw [Nat.zero_add]; exact hc j hj⟩
theorem RowOwn.row {s i : Nat} {a : Option Addr} {R : RowE} (h : RowOwn K s i w a R) : RowIn w a R := by
  refine ⟨h.1, ?_⟩
  rcases h.2 with h | ⟨b, rfl, hb, _, _, hc⟩
  · exact Or.inl h
  · refine Or.inr ⟨b, 0, rfl, hb, fun d hd => ?_⟩
    obtain ⟨ca, sa, cc, sc, h0, h1, h2, h3, h4⟩ := hc d hd
    exact ⟨ca, sa, cc, sc, by rw [Nat.zero_add]; exact h0, h1, h2, h3.row, h4.row⟩
theorem TabOwn.row {s : Nat} {a : Option Addr} {T : TabE} (h : TabOwn K s w a T) : TabIn w a T := by
  refine ⟨h.1, ?_⟩
  rcases h.2 with h | ⟨b, rfl, hb, _, hc⟩
  · exact Or.inl h
  · refine Or.inr ⟨b, 0, rfl, hb, fun i hi => ?_⟩
    obtain ⟨ra, rc, h1, h2⟩ := hc i hi
    exact ⟨ra, rc, by rw [Nat.zero_add]; exact h1, h2.row⟩
theorem RowUOwn.row {s i : Nat} {a : Option Addr} {R : RowU} (h : RowUOwn K s i w a R) : RowUIn w a R := by
  refine ⟨h.1, ?_⟩
  rcases h.2 with h | ⟨b, rfl, hb, _, _, hc⟩
  · exact Or.inl h
  · exact Or.inr ⟨b, 0, rfl, hb, fun d hd => by rw [Nat.zero_add]; exact hc d hd⟩
theorem TabUOwn.row {s : Nat} {a : Option Addr} {T : TabU} (h : TabUOwn K s w a T) : TabUIn w a T := by
  refine ⟨h.1, ?_⟩
  rcases h.2 with h | ⟨b, rfl, hb, _, hc⟩
  · exact Or.inl h
  · refine Or.inr ⟨b, 0, rfl, hb, fun i hi => ?_⟩
    obtain ⟨ra, rc, h1, h2⟩ := hc i hi
    exact ⟨ra, rc, by rw [Nat.zero_add]; exact h1, h2.row⟩
theorem SltOwn.row {a : Option Addr} {n : Nat} {f : Nat → Slt} (h : SltOwn K w a n f) : SltRow w a n f := by
  rcases h with h | ⟨b, rfl, hb, _, _, hc⟩
  · exact Or.inl h
  · exact Or.inr ⟨b, 0, rfl, hb, fun j hj => by rw [Nat.zero_add]; exact hc j hj⟩
end
end Go.Proofs.Qxb6623423a.Seat
