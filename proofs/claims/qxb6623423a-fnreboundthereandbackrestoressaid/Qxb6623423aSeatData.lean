/- Seat b6623423a: what a place holds, as plain data; and where it lies in memory. -/
import Derived.Test.Qxb6623423aSeatSmall
namespace Go.Proofs.Qxb6623423a.Seat
open Go.RowKit

structure Ent where
  peer : ByteArray
  lo : ByteArray
  hi : ByteArray
  plo : ByteArray
  phi : ByteArray
  cnil : Bool
  cn : Nat
  ch : Nat → ByteArray
  snil : Bool
  sn : Nat
  slo : Nat → ByteArray
  shi : Nat → ByteArray

structure RowE where
  isnil : Bool
  n : Nat
  e : Nat → Ent

structure TabE where
  isnil : Bool
  n : Nat
  r : Nat → RowE

structure Sub where
  peer : ByteArray
  lo : ByteArray
  hi : ByteArray

structure RowU where
  isnil : Bool
  n : Nat
  u : Nat → Sub

structure TabU where
  isnil : Bool
  n : Nat
  r : Nat → RowU

structure Slt where
  child : ByteArray
  lo : ByteArray
  hi : ByteArray
  vac : Int
  hgt : Int

structure Plc where
  fan : Int
  lev : Int
  num : Int
  lo : ByteArray
  hi : ByteArray
  par : ByteArray
  plo : ByteArray
  phi : ByteArray
  snil : Bool
  sn : Nat
  sl : Nat → Slt
  ad : Nat → ByteArray
  t : Nat → TabE
  u : Nat → TabU

/-- The addresses and capacities of a place's slices. -/
structure Adr where
  sa : Option Addr
  sc : Nat
  ta : Nat → Option Addr
  tc : Nat → Nat
  ua : Nat → Option Addr
  uc : Nat → Nat

/-! ### Reading: the cells lie somewhere in memory. -/
def StrRow (w : World) (a : Option Addr) (n : Nat) (f : Nat → ByteArray) : Prop :=
  n = 0 ∨ ∃ b o, a = some ⟨b, o, none⟩ ∧ b < w.heap.size ∧ ∀ j, j < n → w.cell? ⟨b, o + j, none⟩ = some (.string (f j))

def PairRow (w : World) (a : Option Addr) (n : Nat) (lo hi : Nat → ByteArray) : Prop :=
  n = 0 ∨ ∃ b o, a = some ⟨b, o, none⟩ ∧ b < w.heap.size ∧ ∀ j, j < n → w.cell? ⟨b, o + j * 2, none⟩ = some (.string (lo j)) ∧ w.cell? ⟨b, o + j * 2 + 1, none⟩ = some (.string (hi j))

/-- What an entry's two slices lead to. -/
def EntIn (w : World) (ca sa : Option Addr) (E : Ent) : Prop :=
  ca.isNone = E.cnil ∧ sa.isNone = E.snil ∧ StrRow w ca E.cn E.ch ∧ PairRow w sa E.sn E.slo E.shi

/-- An entry's seven cells. -/
def EntCells (w : World) (b o : Nat) (E : Ent) (ca sa : Option Addr) (cc sc : Nat) : Prop :=
  w.cell? ⟨b, o, none⟩ = some (.string E.peer) ∧ w.cell? ⟨b, o + 1, none⟩ = some (.string E.lo) ∧ w.cell? ⟨b, o + 2, none⟩ = some (.string E.hi) ∧
  w.cell? ⟨b, o + 3, none⟩ = some (.string E.plo) ∧ w.cell? ⟨b, o + 4, none⟩ = some (.string E.phi) ∧ w.cell? ⟨b, o + 5, none⟩ = some (.slice ca E.cn cc) ∧ w.cell? ⟨b, o + 6, none⟩ = some (.slice sa E.sn sc)

def RowIn (w : World) (a : Option Addr) (R : RowE) : Prop :=
  a.isNone = R.isnil ∧ (R.n = 0 ∨ ∃ b o, a = some ⟨b, o, none⟩ ∧ b < w.heap.size ∧ ∀ d, d < R.n → ∃ ca sa cc sc, EntCells w b (o + d * 7) (R.e d) ca sa cc sc ∧ EntIn w ca sa (R.e d))

def TabIn (w : World) (a : Option Addr) (T : TabE) : Prop :=
  a.isNone = T.isnil ∧ (T.n = 0 ∨ ∃ b o, a = some ⟨b, o, none⟩ ∧ b < w.heap.size ∧ ∀ i, i < T.n → ∃ ra rc, w.cell? ⟨b, o + i, none⟩ = some (.slice ra (T.r i).n rc) ∧ RowIn w ra (T.r i))

def RowUIn (w : World) (a : Option Addr) (R : RowU) : Prop :=
  a.isNone = R.isnil ∧ (R.n = 0 ∨ ∃ b o, a = some ⟨b, o, none⟩ ∧ b < w.heap.size ∧ ∀ d, d < R.n →
    w.cell? ⟨b, o + d * 3, none⟩ = some (.string (R.u d).peer) ∧ w.cell? ⟨b, o + d * 3 + 1, none⟩ = some (.string (R.u d).lo) ∧ w.cell? ⟨b, o + d * 3 + 2, none⟩ = some (.string (R.u d).hi))

def TabUIn (w : World) (a : Option Addr) (T : TabU) : Prop :=
  a.isNone = T.isnil ∧ (T.n = 0 ∨ ∃ b o, a = some ⟨b, o, none⟩ ∧ b < w.heap.size ∧ ∀ i, i < T.n → ∃ ra rc, w.cell? ⟨b, o + i, none⟩ = some (.slice ra (T.r i).n rc) ∧ RowUIn w ra (T.r i))

/-- A slot's five cells. -/
def SltCells (w : World) (b o : Nat) (s : Slt) : Prop :=
  w.cell? ⟨b, o, none⟩ = some (.string s.child) ∧ w.cell? ⟨b, o + 1, none⟩ = some (.string s.lo) ∧ w.cell? ⟨b, o + 2, none⟩ = some (.string s.hi) ∧ w.cell? ⟨b, o + 3, none⟩ = some (.int .i64 s.vac) ∧ w.cell? ⟨b, o + 4, none⟩ = some (.int .i64 s.hgt)

def SltRow (w : World) (a : Option Addr) (n : Nat) (f : Nat → Slt) : Prop :=
  n = 0 ∨ ∃ b o, a = some ⟨b, o, none⟩ ∧ b < w.heap.size ∧ ∀ j, j < n → SltCells w b (o + j * 5) (f j)

/-- All that a place leads to. -/
def PlIn (w : World) (A : Adr) (D : Plc) : Prop :=
  A.sa.isNone = D.snil ∧ SltRow w A.sa D.sn D.sl ∧ (∀ s, s < 2 → TabIn w (A.ta s) (D.t s)) ∧ (∀ s, s < 2 → TabUIn w (A.ua s) (D.u s))

/-- A place's fifteen cells, at the head of block N. -/
def PlBox (w : World) (N : Nat) (A : Adr) (D : Plc) : Prop :=
  w.cell? ⟨N, 0, none⟩ = some (.int .i64 D.fan) ∧ w.cell? ⟨N, 1, none⟩ = some (.int .i64 D.lev) ∧ w.cell? ⟨N, 2, none⟩ = some (.int .i64 D.num) ∧
  w.cell? ⟨N, 3, none⟩ = some (.string D.lo) ∧ w.cell? ⟨N, 4, none⟩ = some (.string D.hi) ∧ w.cell? ⟨N, 5, none⟩ = some (.string D.par) ∧
  w.cell? ⟨N, 6, none⟩ = some (.string D.plo) ∧ w.cell? ⟨N, 7, none⟩ = some (.string D.phi) ∧ w.cell? ⟨N, 8, none⟩ = some (.slice A.sa D.sn A.sc) ∧
  (∀ s, s < 2 → w.cell? ⟨N, 9 + s, none⟩ = some (.string (D.ad s))) ∧ (∀ s, s < 2 → w.cell? ⟨N, 11 + s, none⟩ = some (.slice (A.ta s) (D.t s).n (A.tc s))) ∧
  (∀ s, s < 2 → w.cell? ⟨N, 13 + s, none⟩ = some (.slice (A.ua s) (D.u s).n (A.uc s)))

/-- A place's cells; as a value it is '.agg (plC A D)'. -/
def plC (A : Adr) (D : Plc) : Array Value := #[.int .i64 D.fan, .int .i64 D.lev, .int .i64 D.num, .string D.lo, .string D.hi, .string D.par, .string D.plo, .string D.phi, .slice A.sa D.sn A.sc,
  .string (D.ad 0), .string (D.ad 1), .slice (A.ta 0) (D.t 0).n (A.tc 0), .slice (A.ta 1) (D.t 1).n (A.tc 1), .slice (A.ua 0) (D.u 0).n (A.uc 0), .slice (A.ua 1) (D.u 1).n (A.uc 1)]

theorem two_cases {p : Nat → Prop} (h0 : p 0) (h1 : p 1) : ∀ s, s < 2 → p s := by
  intro s hs
  have : s = 0 ∨ s = 1 := by omega
  rcases this with rfl | rfl
  · exact h0
  · exact h1

theorem cells_box {w : World} {N : Nat} {c : Array Value} {t : TypeId} (h : w.heap[N]? = some (.cells c t (0, 0))) (i : Nat) : w.cell? ⟨N, i, none⟩ = c[i]? := by
  simp [World.cell?, h]

/-- A boxed place. -/
theorem plBox_of {w : World} {N : Nat} {A : Adr} {D : Plc} {t : TypeId} (h : w.heap[N]? = some (.cells (plC A D) t (0, 0))) : PlBox w N A D := by
  unfold PlBox
  simp only [cells_box h]
  exact ⟨rfl, rfl, rfl, rfl, rfl, rfl, rfl, rfl, rfl, two_cases rfl rfl, two_cases rfl rfl, two_cases rfl rfl⟩

/-! ### What stands below B stands. -/
section
variable {w w' : World} {B : Nat}

theorem PlBox.below {N : Nat} {A : Adr} {D : Plc} (h : PlBox w N A D) (hb : Below B w w') (hN : N < B) : PlBox w' N A D := by
  have e : ∀ i, w'.cell? ⟨N, i, none⟩ = w.cell? ⟨N, i, none⟩ := fun i => hb.cell (by exact hN)
  unfold PlBox at h ⊢
  simp only [e]
  exact h

theorem StrRow.below {a : Option Addr} {n : Nat} {f : Nat → ByteArray} (h : StrRow w a n f) (hb : Below w.heap.size w w') : StrRow w' a n f := by
  rcases h with h | ⟨b, o, rfl, hlt, hc⟩
  · exact Or.inl h
  · exact Or.inr ⟨b, o, rfl, Nat.lt_of_lt_of_le hlt hb.size, fun j hj => (hb.cell (by exact hlt)).trans (hc j hj)⟩

theorem PairRow.below {a : Option Addr} {n : Nat} {lo hi : Nat → ByteArray} (h : PairRow w a n lo hi) (hb : Below w.heap.size w w') : PairRow w' a n lo hi := by
  rcases h with h | ⟨b, o, rfl, hlt, hc⟩
  · exact Or.inl h
  · exact Or.inr ⟨b, o, rfl, Nat.lt_of_lt_of_le hlt hb.size, fun j hj => ⟨(hb.cell (by exact hlt)).trans (hc j hj).1, (hb.cell (by exact hlt)).trans (hc j hj).2⟩⟩

theorem EntIn.below {ca sa : Option Addr} {E : Ent} (h : EntIn w ca sa E) (hb : Below w.heap.size w w') : EntIn w' ca sa E :=
  ⟨h.1, h.2.1, h.2.2.1.below hb, h.2.2.2.below hb⟩

theorem EntCells.of {b o : Nat} {E : Ent} {ca sa : Option Addr} {cc sc : Nat} (h : EntCells w b o E ca sa cc sc) (e : ∀ i, w'.cell? ⟨b, i, none⟩ = w.cell? ⟨b, i, none⟩) : EntCells w' b o E ca sa cc sc := by
  unfold EntCells at h ⊢
  simp only [e]
  exact h

theorem RowIn.below {a : Option Addr} {R : RowE} (h : RowIn w a R) (hb : Below w.heap.size w w') : RowIn w' a R := by
  refine ⟨h.1, ?_⟩
  rcases h.2 with h | ⟨b, o, rfl, hlt, hc⟩
  · exact Or.inl h
  · refine Or.inr ⟨b, o, rfl, Nat.lt_of_lt_of_le hlt hb.size, fun d hd => ?_⟩
    obtain ⟨ca, sa, cc, sc, h1, h2⟩ := hc d hd
    exact ⟨ca, sa, cc, sc, h1.of (fun i => hb.cell (by exact hlt)), h2.below hb⟩

theorem TabIn.below {a : Option Addr} {T : TabE} (h : TabIn w a T) (hb : Below w.heap.size w w') : TabIn w' a T := by
  refine ⟨h.1, ?_⟩
  rcases h.2 with h | ⟨b, o, rfl, hlt, hc⟩
  · exact Or.inl h
  · refine Or.inr ⟨b, o, rfl, Nat.lt_of_lt_of_le hlt hb.size, fun i hi => ?_⟩
    obtain ⟨ra, rc, h1, h2⟩ := hc i hi
    exact ⟨ra, rc, (hb.cell (by exact hlt)).trans h1, h2.below hb⟩

theorem RowUIn.below {a : Option Addr} {R : RowU} (h : RowUIn w a R) (hb : Below w.heap.size w w') : RowUIn w' a R := by
  refine ⟨h.1, ?_⟩
  rcases h.2 with h | ⟨b, o, rfl, hlt, hc⟩
  · exact Or.inl h
  · refine Or.inr ⟨b, o, rfl, Nat.lt_of_lt_of_le hlt hb.size, fun d hd => ?_⟩
    obtain ⟨h1, h2, h3⟩ := hc d hd
    exact ⟨(hb.cell (by exact hlt)).trans h1, (hb.cell (by exact hlt)).trans h2, (hb.cell (by exact hlt)).trans h3⟩

theorem TabUIn.below {a : Option Addr} {T : TabU} (h : TabUIn w a T) (hb : Below w.heap.size w w') : TabUIn w' a T := by
  refine ⟨h.1, ?_⟩
  rcases h.2 with h | ⟨b, o, rfl, hlt, hc⟩
  · exact Or.inl h
  · refine Or.inr ⟨b, o, rfl, Nat.lt_of_lt_of_le hlt hb.size, fun i hi => ?_⟩
    obtain ⟨ra, rc, h1, h2⟩ := hc i hi
    exact ⟨ra, rc, (hb.cell (by exact hlt)).trans h1, h2.below hb⟩

theorem SltCells.of {b o : Nat} {s : Slt} (h : SltCells w b o s) (e : ∀ i, w'.cell? ⟨b, i, none⟩ = w.cell? ⟨b, i, none⟩) : SltCells w' b o s := by
  unfold SltCells at h ⊢
  simp only [e]
  exact h

theorem SltRow.below {a : Option Addr} {n : Nat} {f : Nat → Slt} (h : SltRow w a n f) (hb : Below w.heap.size w w') : SltRow w' a n f := by
  rcases h with h | ⟨b, o, rfl, hlt, hc⟩
  · exact Or.inl h
  · exact Or.inr ⟨b, o, rfl, Nat.lt_of_lt_of_le hlt hb.size, fun j hj => (hc j hj).of (fun i => hb.cell (by exact hlt))⟩

theorem PlIn.below {A : Adr} {D : Plc} (h : PlIn w A D) (hb : Below w.heap.size w w') : PlIn w' A D :=
  ⟨h.1, h.2.1.below hb, fun s hs => (h.2.2.1 s hs).below hb, fun s hs => (h.2.2.2 s hs).below hb⟩
end
end Go.Proofs.Qxb6623423a.Seat
