/- Seat b6623423a: the plain law: there and back. -/
import Derived.Test.Qxb6623423aSeatPReb
namespace Go.Proofs.Qxb6623423a.Seat
open Go.RowKit

theorem eqS_iff {x y : ByteArray} : eqS x y = true ↔ x = y := ⟨eqS_eq, fun h => by subst h; simp [eqS]⟩
theorem eqS_false {x y : ByteArray} : eqS x y = false ↔ x ≠ y := by
  rw [← Bool.not_eq_true, eqS_iff]
theorem mv_hit {f t : ByteArray} : mv f t f = t := by
  unfold mv
  rw [if_pos (eqS_iff.2 rfl)]
theorem mv_miss {f t x : ByteArray} (h : x ≠ f) : mv f t x = x := by
  unfold mv
  rw [if_neg (fun e => h (eqS_iff.1 e))]

theorem mv_back {f t x : ByteArray} (h : x ≠ t) : mv t f (mv f t x) = x := by
  by_cases e : x = f
  · subst e
    rw [mv_hit, mv_hit]
  · rw [mv_miss e, mv_miss h]

theorem tch_false {lo hi x : ByteArray} (h : tch lo hi x = false) : lo ≠ x ∧ hi ≠ x := by
  unfold tch at h
  rw [Bool.or_eq_false_iff] at h
  exact ⟨eqS_false.1 h.1, eqS_false.1 h.2⟩
theorem tch_true {lo hi x : ByteArray} : tch lo hi x = true ↔ lo = x ∨ hi = x := by
  unfold tch
  rw [Bool.or_eq_true, eqS_iff, eqS_iff]

theorem mv_same {f t x : ByteArray} : mv f t x = x ↔ (x = f → t = f) := by
  by_cases e : x = f
  · subst e
    rw [mv_hit]
    exact ⟨fun h _ => h, fun h => h rfl⟩
  · rw [mv_miss e]
    exact ⟨fun _ h => absurd h e, fun _ => rfl⟩

theorem chg_iff {f t lo hi : ByteArray} : chg f t lo hi = true ↔ eqS f t = false ∧ tch lo hi f = true := by
  have h : chg f t lo hi = true ↔ ¬ (mv f t lo = lo ∧ mv f t hi = hi) := by
    unfold chg
    rw [Bool.not_eq_true', ← Bool.not_eq_true, Bool.and_eq_true, eqS_iff, eqS_iff]
  rw [h, mv_same, mv_same, eqS_false, tch_true]
  constructor
  · intro h
    by_cases e : f = t
    · exact absurd ⟨fun _ => e.symm, fun _ => e.symm⟩ h
    · refine ⟨e, ?_⟩
      by_cases h1 : lo = f
      · exact Or.inl h1
      by_cases h2 : hi = f
      · exact Or.inr h2
      exact absurd ⟨fun h => absurd h h1, fun h => absurd h h2⟩ h
  · rintro ⟨e, h | h⟩ ⟨a, b⟩
    · exact e (a h).symm
    · exact e (b h).symm

/-- The second call changes what the first one changed. -/
theorem chg_back {f t lo hi : ByteArray} (h : tch lo hi t = false) : chg t f (mv f t lo) (mv f t hi) = true ↔ chg f t lo hi = true := by
  obtain ⟨h1, h2⟩ := tch_false h
  rw [chg_iff, chg_iff, eqS_false, eqS_false, tch_true, tch_true]
  have key : ∀ x : ByteArray, x ≠ t → (mv f t x = t ↔ x = f) := by
    intro x hx
    by_cases e : x = f
    · subst e
      rw [mv_hit]
      exact ⟨fun _ => rfl, fun _ => rfl⟩
    · rw [mv_miss e]
      exact ⟨fun h => absurd h hx, fun h => absurd h e⟩
  rw [key _ h1, key _ h2]
  exact ⟨fun h => ⟨fun e => h.1 e.symm, h.2⟩, fun h => ⟨fun e => h.1 e.symm, h.2⟩⟩

section
variable {f t : ByteArray} {D : Plc}

theorem slots_flag : (∃ i, i < D.sn ∧ chg f t (D.sl i).lo (D.sl i).hi = true) ↔ eqS f t = false ∧ ∃ i, i < D.sn ∧ tch (D.sl i).lo (D.sl i).hi f = true := by
  constructor
  · rintro ⟨i, hi, h⟩
    exact ⟨(chg_iff.1 h).1, i, hi, (chg_iff.1 h).2⟩
  · rintro ⟨e, i, hi, h⟩
    exact ⟨i, hi, chg_iff.2 ⟨e, h⟩⟩

theorem slots_back (hc : Clean t D) : (∃ i, i < (mvP f t D).sn ∧ chg t f ((mvP f t D).sl i).lo ((mvP f t D).sl i).hi = true) ↔ ∃ i, i < D.sn ∧ chg f t (D.sl i).lo (D.sl i).hi = true := by
  constructor
  · rintro ⟨i, hi, h⟩
    exact ⟨i, hi, (chg_back (hc.2.1 i hi)).1 h⟩
  · rintro ⟨i, hi, h⟩
    exact ⟨i, hi, (chg_back (hc.2.1 i hi)).2 h⟩

theorem ents_flag : MB D f t 2 0 0 ↔ eqS f t = false ∧ NB D f 2 0 0 := by
  unfold MB NB
  rw [upto_all, upto_all]
  constructor
  · rintro ⟨s, hs, i, hi, d, hd, h⟩
    exact ⟨(chg_iff.1 h).1, s, hs, i, hi, d, hd, (chg_iff.1 h).2⟩
  · rintro ⟨e, s, hs, i, hi, d, hd, h⟩
    exact ⟨s, hs, i, hi, d, hd, chg_iff.2 ⟨e, h⟩⟩

theorem ents_back (hc : Clean t D) : MB (mvP f t D) t f 2 0 0 ↔ MB D f t 2 0 0 := by
  unfold MB
  rw [upto_all, upto_all]
  constructor
  · rintro ⟨s, hs, i, hi, d, hd, h⟩
    exact ⟨s, hs, i, hi, d, hd, (chg_back ((hc.2.2 s hs).1 i hi d hd).2.1).1 h⟩
  · rintro ⟨s, hs, i, hi, d, hd, h⟩
    exact ⟨s, hs, i, hi, d, hd, (chg_back ((hc.2.2 s hs).1 i hi d hd).2.1).2 h⟩

theorem str_back {lo hi : ByteArray} (h : tch lo hi t = false) : mv t f (mv f t lo) = lo ∧ mv t f (mv f t hi) = hi := ⟨mv_back (tch_false h).1, mv_back (tch_false h).2⟩

variable {w : World}
theorem row_back {a : Option Addr} {R : RowE} (h : RowIn w a (mvR t f (mvR f t R))) (hc : RowClean t R) : RowIn w a R := by
  refine ⟨h.1, ?_⟩
  rcases h.2 with h | ⟨b, o, ha, hlt, he⟩
  · exact Or.inl h
  refine Or.inr ⟨b, o, ha, hlt, fun d hd => ?_⟩
  obtain ⟨ca, sa, cc, sc, ⟨e0, e1, e2, e3, e4, e5, e6⟩, h1, h2, h3, h4⟩ := he d hd
  obtain ⟨g1, g2, g3⟩ := hc d hd
  refine ⟨ca, sa, cc, sc, ⟨e0, ?_, ?_, ?_, ?_, e5, e6⟩, h1, h2, h3, ?_⟩
  · exact e1.trans (congrArg (fun x => some (Value.string x)) (str_back g1).1)
  · exact e2.trans (congrArg (fun x => some (Value.string x)) (str_back g1).2)
  · exact e3.trans (congrArg (fun x => some (Value.string x)) (str_back g2).1)
  · exact e4.trans (congrArg (fun x => some (Value.string x)) (str_back g2).2)
  · rcases h4 with h | ⟨pb, po, hp, hpl, hq⟩
    · exact Or.inl h
    refine Or.inr ⟨pb, po, hp, hpl, fun j hj => ⟨?_, ?_⟩⟩
    · exact (hq j hj).1.trans (congrArg (fun x => some (Value.string x)) (str_back (g3 j hj)).1)
    · exact (hq j hj).2.trans (congrArg (fun x => some (Value.string x)) (str_back (g3 j hj)).2)

theorem tab_back {a : Option Addr} {T : TabE} (h : TabIn w a (mvT t f (mvT f t T))) (hc : TabClean t T) : TabIn w a T := by
  refine ⟨h.1, ?_⟩
  rcases h.2 with h | ⟨b, o, ha, hlt, he⟩
  · exact Or.inl h
  refine Or.inr ⟨b, o, ha, hlt, fun i hi => ?_⟩
  obtain ⟨ra, rc, h1, h2⟩ := he i hi
  exact ⟨ra, rc, h1, row_back h2 (hc i hi)⟩

theorem urow_back {a : Option Addr} {R : RowU} (h : RowUIn w a (mvRU t f (mvRU f t R))) (hc : RowUClean t R) : RowUIn w a R := by
  refine ⟨h.1, ?_⟩
  rcases h.2 with h | ⟨b, o, ha, hlt, he⟩
  · exact Or.inl h
  refine Or.inr ⟨b, o, ha, hlt, fun d hd => ?_⟩
  obtain ⟨e0, e1, e2⟩ := he d hd
  exact ⟨e0, e1.trans (congrArg (fun x => some (Value.string x)) (str_back (hc d hd)).1), e2.trans (congrArg (fun x => some (Value.string x)) (str_back (hc d hd)).2)⟩

theorem utab_back {a : Option Addr} {T : TabU} (h : TabUIn w a (mvTU t f (mvTU f t T))) (hc : TabUClean t T) : TabUIn w a T := by
  refine ⟨h.1, ?_⟩
  rcases h.2 with h | ⟨b, o, ha, hlt, he⟩
  · exact Or.inl h
  refine Or.inr ⟨b, o, ha, hlt, fun i hi => ?_⟩
  obtain ⟨ra, rc, h1, h2⟩ := he i hi
  exact ⟨ra, rc, h1, urow_back h2 (hc i hi)⟩

theorem pl_back {A : Adr} (h : PlIn w A (mvP t f (mvP f t D))) (hc : Clean t D) : PlIn w A D := by
  refine ⟨h.1, ?_, fun s hs => tab_back (h.2.2.1 s hs) (hc.2.2 s hs).1, fun s hs => utab_back (h.2.2.2 s hs) (hc.2.2 s hs).2⟩
  rcases h.2.1 with h | ⟨b, o, ha, hlt, he⟩
  · exact Or.inl h
  refine Or.inr ⟨b, o, ha, hlt, fun j hj => ?_⟩
  obtain ⟨e0, e1, e2, e3, e4⟩ := he j hj
  exact ⟨e0, e1.trans (congrArg (fun x => some (Value.string x)) (str_back (hc.2.1 j hj)).1), e2.trans (congrArg (fun x => some (Value.string x)) (str_back (hc.2.1 j hj)).2), e3, e4⟩

theorem box_back {A : Adr} {N : Nat} (h : PlBox w N A (mvP t f (mvP f t D))) (hc : Clean t D) : PlBox w N A D := by
  obtain ⟨c0, c1, c2, c3, c4, c5, c6, c7, c8⟩ := h
  exact ⟨c0, c1, c2, c3, c4, c5, c6.trans (congrArg (fun x => some (Value.string x)) (str_back hc.1).1), c7.trans (congrArg (fun x => some (Value.string x)) (str_back hc.1).2), c8⟩
end
end Go.Proofs.Qxb6623423a.Seat
