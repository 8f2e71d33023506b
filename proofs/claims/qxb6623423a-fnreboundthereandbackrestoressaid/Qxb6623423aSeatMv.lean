/- Seat b6623423a: a place moved, and a place whose first parts are moved. -/
import Derived.Test.Qxb6623423aSeatReb
namespace Go.Proofs.Qxb6623423a.Seat
open Go.RowKit

def mvR (f t : ByteArray) (R : RowE) : RowE := { R with e := fun d => mvE f t (R.e d) }
def mvT (f t : ByteArray) (T : TabE) : TabE := { T with r := fun i => mvR f t (T.r i) }
def mvSub (f t : ByteArray) (u : Sub) : Sub := { u with lo := mv f t u.lo, hi := mv f t u.hi }
def mvRU (f t : ByteArray) (R : RowU) : RowU := { R with u := fun d => mvSub f t (R.u d) }
def mvTU (f t : ByteArray) (T : TabU) : TabU := { T with r := fun i => mvRU f t (T.r i) }
def mvS (f t : ByteArray) (s : Slt) : Slt := { s with lo := mv f t s.lo, hi := mv f t s.hi }
def mvP (f t : ByteArray) (D : Plc) : Plc := { D with plo := mv f t D.plo, phi := mv f t D.phi, sl := fun i => mvS f t (D.sl i), t := fun s => mvT f t (D.t s), u := fun s => mvTU f t (D.u s) }

/-- The first k of a family are changed. -/
def upto {α : Type} (m : α → α) (k : Nat) (x : Nat → α) : Nat → α := fun j => if j < k then m (x j) else x j
section
variable {α : Type} {m : α → α} {k j : Nat} {x : Nat → α}
theorem upto_lt (h : j < k) : upto m k x j = m (x j) := if_pos h
theorem upto_ge (h : ¬ j < k) : upto m k x j = x j := if_neg h
theorem upto_ne (h : j ≠ k) : upto m (k + 1) x j = upto m k x j := by
  by_cases e : j < k
  · rw [upto_lt e, upto_lt (by omega)]
  · rw [upto_ge e, upto_ge (by omega)]
theorem upto_zero : upto m 0 x = x := by funext j; exact upto_ge (by omega)
end

def ptR (f t : ByteArray) (k : Nat) (R : RowE) : RowE := { R with e := upto (mvE f t) k R.e }
def ptT (f t : ByteArray) (k : Nat) (T : TabE) : TabE := { T with r := upto (mvR f t) k T.r }
def ptRU (f t : ByteArray) (k : Nat) (R : RowU) : RowU := { R with u := upto (mvSub f t) k R.u }
def ptTU (f t : ByteArray) (k : Nat) (T : TabU) : TabU := { T with r := upto (mvRU f t) k T.r }

theorem ptR_zero {f t : ByteArray} {R : RowE} : ptR f t 0 R = R := by simp only [ptR, upto_zero]
theorem ptT_zero {f t : ByteArray} {T : TabE} : ptT f t 0 T = T := by simp only [ptT, upto_zero]
theorem ptRU_zero {f t : ByteArray} {R : RowU} : ptRU f t 0 R = R := by simp only [ptRU, upto_zero]
theorem ptTU_zero {f t : ByteArray} {T : TabU} : ptTU f t 0 T = T := by simp only [ptTU, upto_zero]
theorem uptoR_n {f t : ByteArray} {k i : Nat} {r : Nat → RowE} : (upto (mvR f t) k r i).n = (r i).n := by unfold upto; split <;> rfl
theorem uptoRU_n {f t : ByteArray} {k i : Nat} {r : Nat → RowU} : (upto (mvRU f t) k r i).n = (r i).n := by unfold upto; split <;> rfl

section
variable {K : Nat → Key} {s k : Nat} {f t : ByteArray} {w w2 : World}

/-- One entry more is moved. -/
theorem RowOwn.step {q d : Nat} {R : RowE} (h : RowOwn K s k w (some ⟨q, 0, none⟩) (ptR f t d R)) (hd : d < R.n) (ho : Only q (d * 7) 7 w w2) {ca sa' : Option Addr} {cc sc' : Nat}
    (hc : EntCells w2 q (d * 7) (mvE f t (R.e d)) ca sa' cc sc') (h1 : ca.isNone = (R.e d).cnil) (h2 : sa'.isNone = (R.e d).snil) (h3 : LeafS K w ca (R.e d).cn (R.e d).ch) (h4 : LeafP K w2 sa' (R.e d).sn (fun c => mv f t ((R.e d).slo c)) (fun c => mv f t ((R.e d).shi c))) :
    RowOwn K s k w2 (some ⟨q, 0, none⟩) (ptR f t (d + 1) R) := by
  refine ⟨h.1, ?_⟩
  rcases h.2 with hz | ⟨b, hb, hlt, hkb, hu, he⟩
  · exact absurd hz (show ¬ R.n = 0 by omega)
  injection hb with hb
  injection hb with hb
  subst hb
  have hkp : Kp K (· = .row s k) w w2 := hkb ▸ ho.kp
  refine Or.inr ⟨q, rfl, Nat.lt_of_lt_of_le hlt ho.size, hkb, fun i => (ho.frozen i).trans (hu i), fun j hj => ?_⟩
  by_cases e : j = d
  · subst e
    show EntOwn K w2 q (j * 7) (upto (mvE f t) (j + 1) R.e j)
    rw [upto_lt (by omega)]
    exact ⟨ca, sa', cc, sc', hc, h1, h2, h3.go hkp (by intro e; cases e) (fun _ _ => rfl), h4⟩
  · show EntOwn K w2 q (j * 7) (upto (mvE f t) (d + 1) R.e j)
    rw [upto_ne e]
    exact (he j hj).go' hkp (by intro e; cases e) (fun _ _ => rfl) (fun i h1 h2 => ho.cell i (by omega))

theorem RowOwn.full {a : Option Addr} {R : RowE} (h : RowOwn K s k w a (ptR f t R.n R)) : RowOwn K s k w a (mvR f t R) := by
  refine ⟨h.1, ?_⟩
  rcases h.2 with hz | ⟨b, hb, hlt, hkb, hu, he⟩
  · exact Or.inl hz
  · refine Or.inr ⟨b, hb, hlt, hkb, hu, fun d hd => ?_⟩
    have := he d hd
    rw [show (ptR f t R.n R).e d = mvE f t (R.e d) from upto_lt hd] at this
    exact this

theorem TabOwn.step {b : Nat} {T : TabE} {ra : Option Addr} {rc : Nat} (h : TabOwn K s w (some ⟨b, 0, none⟩) (ptT f t k T)) (hk : k < T.n) (hkp : Kp K (· = .row s k) w w2) (hr : w.cell? ⟨b, k, none⟩ = some (.slice ra (T.r k).n rc)) (hrow : RowOwn K s k w2 ra (mvR f t (T.r k))) :
    TabOwn K s w2 (some ⟨b, 0, none⟩) (ptT f t (k + 1) T) := by
  refine ⟨h.1, ?_⟩
  rcases h.2 with hz | ⟨b', hb, hlt, hkb, he⟩
  · exact absurd hz (show ¬ T.n = 0 by omega)
  injection hb with hb
  injection hb with hb
  subst hb
  have hcell : ∀ i, w2.cell? ⟨b, i, none⟩ = w.cell? ⟨b, i, none⟩ := fun i => hkp.cell (by exact hlt) (by show ¬ (K b = _); rw [hkb]; intro e; cases e)
  refine Or.inr ⟨b, rfl, Nat.lt_of_lt_of_le hlt hkp.size, hkb, fun i hi => ?_⟩
  show ∃ ra rc, w2.cell? ⟨b, i, none⟩ = some (.slice ra (upto (mvR f t) (k + 1) T.r i).n rc) ∧ RowOwn K s i w2 ra (upto (mvR f t) (k + 1) T.r i)
  by_cases e : i = k
  · subst e
    rw [upto_lt (by omega)]
    exact ⟨ra, rc, (hcell i).trans hr, hrow⟩
  · obtain ⟨ra', rc', g1, g2⟩ := he i hi
    rw [upto_ne e]
    exact ⟨ra', rc', (hcell i).trans g1, g2.go hkp (by intro e; cases e) (by intro h; injection h with _ h; exact e h) (fun _ _ => rfl)⟩

theorem TabOwn.full {a : Option Addr} {T : TabE} (h : TabOwn K s w a (ptT f t T.n T)) : TabOwn K s w a (mvT f t T) := by
  refine ⟨h.1, ?_⟩
  rcases h.2 with hz | ⟨b, hb, hlt, hkb, he⟩
  · exact Or.inl hz
  · refine Or.inr ⟨b, hb, hlt, hkb, fun i hi => ?_⟩
    have := he i hi
    rw [show (ptT f t T.n T).r i = mvR f t (T.r i) from upto_lt hi] at this
    exact this

theorem RowUOwn.step {q d : Nat} {R : RowU} (h : RowUOwn K s k w (some ⟨q, 0, none⟩) (ptRU f t d R)) (hd : d < R.n) (ho : Only q (d * 3) 3 w w2) (hc : SubCells w2 q (d * 3) (mvSub f t (R.u d))) :
    RowUOwn K s k w2 (some ⟨q, 0, none⟩) (ptRU f t (d + 1) R) := by
  refine ⟨h.1, ?_⟩
  rcases h.2 with hz | ⟨b, hb, hlt, hkb, hu, he⟩
  · exact absurd hz (show ¬ R.n = 0 by omega)
  injection hb with hb
  injection hb with hb
  subst hb
  refine Or.inr ⟨q, rfl, Nat.lt_of_lt_of_le hlt ho.size, hkb, fun i => (ho.frozen i).trans (hu i), fun j hj => ?_⟩
  by_cases e : j = d
  · subst e
    show SubCells w2 q (j * 3) (upto (mvSub f t) (j + 1) R.u j)
    rw [upto_lt (by omega)]
    exact hc
  · show SubCells w2 q (j * 3) (upto (mvSub f t) (d + 1) R.u j)
    rw [upto_ne e]
    obtain ⟨c0, c1, c2⟩ := he j hj
    exact ⟨(ho.cell _ (by omega)).trans c0, (ho.cell _ (by omega)).trans c1, (ho.cell _ (by omega)).trans c2⟩

theorem RowUOwn.full {a : Option Addr} {R : RowU} (h : RowUOwn K s k w a (ptRU f t R.n R)) : RowUOwn K s k w a (mvRU f t R) := by
  refine ⟨h.1, ?_⟩
  rcases h.2 with hz | ⟨b, hb, hlt, hkb, hu, he⟩
  · exact Or.inl hz
  · refine Or.inr ⟨b, hb, hlt, hkb, hu, fun d hd => ?_⟩
    have := he d hd
    rw [show (ptRU f t R.n R).u d = mvSub f t (R.u d) from upto_lt hd] at this
    exact this

theorem TabUOwn.step {b : Nat} {T : TabU} {ra : Option Addr} {rc : Nat} (h : TabUOwn K s w (some ⟨b, 0, none⟩) (ptTU f t k T)) (hk : k < T.n) (hkp : Kp K (· = .urow s k) w w2) (hr : w.cell? ⟨b, k, none⟩ = some (.slice ra (T.r k).n rc)) (hrow : RowUOwn K s k w2 ra (mvRU f t (T.r k))) :
    TabUOwn K s w2 (some ⟨b, 0, none⟩) (ptTU f t (k + 1) T) := by
  refine ⟨h.1, ?_⟩
  rcases h.2 with hz | ⟨b', hb, hlt, hkb, he⟩
  · exact absurd hz (show ¬ T.n = 0 by omega)
  injection hb with hb
  injection hb with hb
  subst hb
  have hcell : ∀ i, w2.cell? ⟨b, i, none⟩ = w.cell? ⟨b, i, none⟩ := fun i => hkp.cell (by exact hlt) (by show ¬ (K b = _); rw [hkb]; intro e; cases e)
  refine Or.inr ⟨b, rfl, Nat.lt_of_lt_of_le hlt hkp.size, hkb, fun i hi => ?_⟩
  show ∃ ra rc, w2.cell? ⟨b, i, none⟩ = some (.slice ra (upto (mvRU f t) (k + 1) T.r i).n rc) ∧ RowUOwn K s i w2 ra (upto (mvRU f t) (k + 1) T.r i)
  by_cases e : i = k
  · subst e
    rw [upto_lt (by omega)]
    exact ⟨ra, rc, (hcell i).trans hr, hrow⟩
  · obtain ⟨ra', rc', g1, g2⟩ := he i hi
    rw [upto_ne e]
    exact ⟨ra', rc', (hcell i).trans g1, g2.go hkp (by intro h; injection h with _ h; exact e h) (fun _ _ => rfl)⟩

theorem TabUOwn.full {a : Option Addr} {T : TabU} (h : TabUOwn K s w a (ptTU f t T.n T)) : TabUOwn K s w a (mvTU f t T) := by
  refine ⟨h.1, ?_⟩
  rcases h.2 with hz | ⟨b, hb, hlt, hkb, he⟩
  · exact Or.inl hz
  · refine Or.inr ⟨b, hb, hlt, hkb, fun i hi => ?_⟩
    have := he i hi
    rw [show (ptTU f t T.n T).r i = mvRU f t (T.r i) from upto_lt hi] at this
    exact this

/-- One slot more is moved. -/
theorem SltOwn.step {b d n : Nat} {x : Nat → Slt} (h : SltOwn K w (some ⟨b, 0, none⟩) n (upto (mvS f t) d x)) (hd : d < n) (ho : Only b (d * 5) 5 w w2) (hc : SltCells w2 b (d * 5) (mvS f t (x d))) : SltOwn K w2 (some ⟨b, 0, none⟩) n (upto (mvS f t) (d + 1) x) := by
  rcases h with hz | ⟨b', hb, hlt, hkb, hu, he⟩
  · omega
  injection hb with hb
  injection hb with hb
  subst hb
  refine Or.inr ⟨b, rfl, Nat.lt_of_lt_of_le hlt ho.size, hkb, fun i => (ho.frozen i).trans (hu i), fun j hj => ?_⟩
  by_cases e : j = d
  · subst e
    rw [upto_lt (by omega)]
    exact hc
  · rw [upto_ne e]
    obtain ⟨c0, c1, c2, c3, c4⟩ := he j hj
    exact ⟨(ho.cell _ (by omega)).trans c0, (ho.cell _ (by omega)).trans c1, (ho.cell _ (by omega)).trans c2, (ho.cell _ (by omega)).trans c3, (ho.cell _ (by omega)).trans c4⟩
theorem SltOwn.full {a : Option Addr} {n : Nat} {x : Nat → Slt} (h : SltOwn K w a n (upto (mvS f t) n x)) : SltOwn K w a n (fun i => mvS f t (x i)) := by
  rcases h with hz | ⟨b, hb, hlt, hkb, hu, he⟩
  · exact Or.inl hz
  · refine Or.inr ⟨b, hb, hlt, hkb, hu, fun d hd => ?_⟩
    have := he d hd
    rw [upto_lt hd] at this
    exact this
end
end Go.Proofs.Qxb6623423a.Seat
