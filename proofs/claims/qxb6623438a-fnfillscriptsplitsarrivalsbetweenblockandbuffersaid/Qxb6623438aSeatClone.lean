/- Seat b6623438a: a clone, nil or not, in one form; the words' clones. -/
import Derived.Test.Qxb6623438aSeatCalls
namespace Go.Proofs.Qxb6623438a.Seat
open Go.RowKit

/-- n bytes in a new block, from B on (of no bytes: nothing is said). -/
def Cl (w : World) (B : Nat) (a : Option Addr) (n : Nat) (Z : Nat → Int) : Prop :=
  n = 0 ∨ ∃ g, a = some ⟨g, 0, none⟩ ∧ B ≤ g ∧ w.rowIs g 5 n (u8 Z)

theorem Cl.row {w : World} {B : Nat} {a : Option Addr} {n : Nat} {Z : Nat → Int} (h : Cl w B a n Z) : Row w a n (u8 Z) := by
  rcases h with h | ⟨g, rfl, _, hr⟩
  · exact Or.inl h
  · exact Or.inr ⟨g, 0, rfl, hr.lt, fun j hj => by rw [Nat.zero_add]; exact hr.cell hj⟩

theorem rowIs_below {w w' : World} {B b : Nat} {t : TypeId} {n : Nat} {f : Nat → Value} (h : w.rowIs b t n f) (hb : Below B w w') (hlt : b < B) : w'.rowIs b t n f := h.of_block (hb.block b hlt)

theorem Cl.below {w w' : World} {B : Nat} {a : Option Addr} {n : Nat} {Z : Nat → Int} (h : Cl w B a n Z) (hb : Below w.heap.size w w') : Cl w' B a n Z := by
  rcases h with h | ⟨g, rfl, hg, hr⟩
  · exact Or.inl h
  · exact Or.inr ⟨g, rfl, hg, rowIs_below hr hb hr.lt⟩

theorem Cl.setOther {w : World} {B : Nat} {a : Option Addr} {n : Nat} {Z : Nat → Int} (h : Cl w B a n Z) {p : Addr} (hp : p.block < B) (v : Value) : Cl (w.setCell p v) B a n Z := by
  rcases h with h | ⟨g, rfl, hg, hr⟩
  · exact Or.inl h
  · exact Or.inr ⟨g, rfl, hg, hr.setOther (by omega) v⟩

theorem Cl.mono {w : World} {B B' : Nat} {a : Option Addr} {n : Nat} {Z : Nat → Int} (h : Cl w B a n Z) (hB : B' ≤ B) : Cl w B' a n Z := by
  rcases h with h | ⟨g, rfl, hg, hr⟩
  · exact Or.inl h
  · exact Or.inr ⟨g, rfl, by omega, hr⟩

theorem Row.below {w w' : World} {a : Option Addr} {n : Nat} {f : Nat → Value} (h : Row w a n f) (hb : Below w.heap.size w w') : Row w' a n f := by
  rcases h with h | ⟨b, o, rfl, hlt, hc⟩
  · exact Or.inl h
  · exact Or.inr ⟨b, o, rfl, Nat.lt_of_lt_of_le hlt hb.size, fun j hj => (hb.cell (by exact hlt)).trans (hc j hj)⟩

theorem clone_any (a : Option Addr) (n c : Nat) (Z : Nat → Int) (w : World) (hn : n ≤ 1048576) (ha : a = none → n = 0 ∧ c = 0) (hc : Row w a n (u8 Z)) :
    Calls Try.prog 5 #[.slice a n c] w fun e w' => ∃ (ca : Option Addr) (cc : Nat), e = .returned (.slice ca n cc) ∧ ca.isNone = a.isNone ∧ Cl w' w.heap.size ca n Z ∧ Below w.heap.size w w' := by
  cases a with
  | none =>
    obtain ⟨rfl, rfl⟩ := ha rfl
    exact (clone_nil w).mono fun e w' ⟨he, hw⟩ => ⟨none, 0, he, rfl, Or.inl rfl, hw ▸ Below.refl _ _⟩
  | some ad =>
    exact (clone_some ad n c Z w hn hc).mono fun e w' ⟨he, hr, hb⟩ => ⟨_, n, he, rfl, Or.inr ⟨_, rfl, Nat.le_refl _, hr⟩, hb⟩

/-- The words' clones: a row of slices at block G, each cloned into a block behind G. -/
def Clones (w : World) (G : Nat) (n : Nat) (A : Nat → Option Addr) (L : Nat → Nat) (Zw : Nat → Nat → Int) (n9 : Nat) : Prop :=
  ∃ (CA : Nat → Option Addr) (CC : Nat → Nat), w.rowIs G 22 n9 (fun j => if j < n then .slice (CA j) (L j) (CC j) else .slice none 0 0) ∧ ∀ j, j < n → (CA j).isNone = (A j).isNone ∧ Cl w (G + 1) (CA j) (L j) (Zw j)

theorem Clones.start {w : World} {G n9 : Nat} {A : Nat → Option Addr} {L : Nat → Nat} {Zw : Nat → Nat → Int} (h : w.rowIs G 22 n9 (fun _ => .slice none 0 0)) : Clones w G 0 A L Zw n9 :=
  ⟨fun _ => none, fun _ => 0, h.congr (fun i _ => by simp), fun j hj => absurd hj (Nat.not_lt_zero _)⟩

theorem Clones.lt {w : World} {G n n9 : Nat} {A : Nat → Option Addr} {L : Nat → Nat} {Zw : Nat → Nat → Int} (h : Clones w G n A L Zw n9) : G < w.heap.size := by
  obtain ⟨_, _, hr, _⟩ := h
  exact hr.lt

/-- One word more: cloned, then stored. -/
theorem Clones.next {w w' : World} {G k n9 : Nat} {A : Nat → Option Addr} {L : Nat → Nat} {Zw : Nat → Nat → Int} (h : Clones w G k A L Zw n9) (hb : Below w.heap.size w w') (ca : Option Addr) (cc : Nat)
    (hnil : ca.isNone = (A k).isNone) (hcl : Cl w' w.heap.size ca (L k) (Zw k)) : Clones (w'.setCell ⟨G, k, none⟩ (.slice ca (L k) cc)) G (k + 1) A L Zw n9 := by
  have hG := h.lt
  obtain ⟨CA, CC, hr, hall⟩ := h
  refine ⟨fun j => if j = k then ca else CA j, fun j => if j = k then cc else CC j, ((rowIs_below hr hb hG).set k _).congr (fun i _ => ?_), fun j hj => ?_⟩
  · by_cases e : i = k
    · subst e; simp
    · by_cases e2 : i < k
      · simp only [if_neg e, if_pos e2, if_pos (show i < k + 1 by omega)]
      · simp only [if_neg e, if_neg e2, if_neg (show ¬ i < k + 1 by omega)]
  · by_cases e : j = k
    · subst e
      simp only [if_true]
      exact ⟨hnil, (hcl.mono (by omega)).setOther (by show G < G + 1; omega) _⟩
    · simp only [if_neg e]
      obtain ⟨h1, h2⟩ := hall j (by omega)
      exact ⟨h1, (h2.below hb).setOther (by show G < G + 1; omega) _⟩

theorem Clones.below {w w' : World} {G n n9 : Nat} {A : Nat → Option Addr} {L : Nat → Nat} {Zw : Nat → Nat → Int} (h : Clones w G n A L Zw n9) (hb : Below w.heap.size w w') : Clones w' G n A L Zw n9 := by
  have hG := h.lt
  obtain ⟨CA, CC, hr, hall⟩ := h
  exact ⟨CA, CC, rowIs_below hr hb hG, fun j hj => ⟨(hall j hj).1, (hall j hj).2.below hb⟩⟩

/-- What the reader is handed for the words. -/
def WordsOk (w : World) (wa a9 : Option Addr) (A : Nat → Option Addr) (L : Nat → Nat) (Zw : Nat → Nat → Int) (n9 : Nat) : Prop :=
  wa.isNone = a9.isNone ∧ (n9 = 0 ∨ ∃ G, wa = some ⟨G, 0, none⟩ ∧ Clones w G n9 A L Zw n9)

theorem WordsOk.below {w w' : World} {wa a9 : Option Addr} {A : Nat → Option Addr} {L : Nat → Nat} {Zw : Nat → Nat → Int} {n9 : Nat} (h : WordsOk w wa a9 A L Zw n9) (hb : Below w.heap.size w w') : WordsOk w' wa a9 A L Zw n9 := by
  refine ⟨h.1, ?_⟩
  rcases h.2 with h0 | ⟨G, e, hc⟩
  · exact Or.inl h0
  · exact Or.inr ⟨G, e, hc.below hb⟩

/-- A chunk for the buffer, its length an Int. -/
theorem fill_buf' (R : Nat) (b0 : Addr) (da : Option Addr) (bl bl2 bc dl dc : Nat) (rec n : Int) (off sc need skip md wds : Value) (w : World)
    (hr : w.rowIs R 34 9 (rd (.slice (some b0) bl bc) off sc need skip (.slice da dl dc) (.int .i64 rec) md wds)) (hlt : ¬ rec < dl) (hn : 0 ≤ n) (h2 : (bl2 : Int) = bl + n) (hb : bl2 ≤ bc) (hbc : bc ≤ 1048576) :
    Calls Try.prog 7 #[.pointer (some ⟨R, 0, none⟩), .int .i64 n] w fun e w' =>
      e = .returned (.tuple #[]) ∧ w'.rowIs R 34 9 (rd (.slice (some b0) bl2 bc) off sc need skip (.slice da dl dc) (.int .i64 rec) md wds) ∧ Below R w w' := by
  obtain ⟨m, rfl⟩ := Int.eq_ofNat_of_zero_le hn
  obtain rfl : bl2 = bl + m := by omega
  exact fill_buf R b0 da bl bc dl dc m rec off sc need skip md wds w hr hlt hb hbc
end Go.Proofs.Qxb6623438a.Seat
