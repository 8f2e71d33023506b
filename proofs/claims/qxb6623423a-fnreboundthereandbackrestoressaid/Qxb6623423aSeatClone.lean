/- Seat b6623423a: slices.Clone of spans. -/
import Derived.Test.Qxb6623423aSeatToEnt
namespace Go.Proofs.Qxb6623423a.Seat
open Go.RowKit

theorem zero37 : (Try.prog.info? 37).map (fun i => (i.zero, i.size, i.bytes)) = some (some (.agg #[.string ⟨#[]⟩, .string ⟨#[]⟩]), 2, 32) := by kernel_rfl

/-- n pairs as 2 n cells. -/
def flat (n : Nat) (lo hi : Nat → ByteArray) : List Value := (List.range (n * 2)).map fun i => if i % 2 = 0 then .string (lo (i / 2)) else .string (hi (i / 2))
theorem flat_length (n : Nat) (lo hi : Nat → ByteArray) : (flat n lo hi).length = n * 2 := by simp [flat]
theorem flat_get {n : Nat} {lo hi : Nat → ByteArray} {i : Nat} (h : i < n * 2) : (flat n lo hi)[i]? = some (if i % 2 = 0 then .string (lo (i / 2)) else .string (hi (i / 2))) := by simp [flat, h]
theorem flat_even {n : Nat} {lo hi : Nat → ByteArray} {j : Nat} (h : j < n) : (flat n lo hi)[j * 2]? = some (.string (lo j)) := by
  rw [flat_get (by omega), if_pos (by omega), Nat.mul_div_cancel _ (by omega)]
theorem flat_odd {n : Nat} {lo hi : Nat → ByteArray} {j : Nat} (h : j < n) : (flat n lo hi)[j * 2 + 1]? = some (.string (hi j)) := by
  rw [flat_get (by omega), if_neg (by omega), show (j * 2 + 1) / 2 = j by omega]
theorem flat_one (n : Nat) (lo hi : Nat → ByteArray) : ∀ u ∈ flat n lo hi, u.oneCell' = true := by
  intro u hu
  simp only [flat, List.mem_map] at hu
  obtain ⟨i, _, rfl⟩ := hu
  by_cases e : i % 2 = 0
  · rw [if_pos e]; rfl
  · rw [if_neg e]; rfl

theorem clone (b o n c : Nat) (lo hi : Nat → ByteArray) (w : World) (h0 : 0 < n) (hn : n ≤ 1048576) (hb : b < w.heap.size)
    (hc : ∀ j, j < n → w.cell? ⟨b, o + j * 2, none⟩ = some (.string (lo j)) ∧ w.cell? ⟨b, o + j * 2 + 1, none⟩ = some (.string (hi j))) :
    Calls Try.prog 26 #[.slice (some ⟨b, o, none⟩) n c] w fun e w' => ∃ g cap, e = .returned (.slice (some ⟨g, 0, none⟩) n cap) ∧ w.heap.size ≤ g ∧ g < w'.heap.size ∧ Room w' g (n * 2) ∧
      (∀ j, j < n → w'.cell? ⟨g, j * 2, none⟩ = some (.string (lo j)) ∧ w'.cell? ⟨g, j * 2 + 1, none⟩ = some (.string (hi j))) ∧ Below w.heap.size w w' := by
  have n1 := eqNil78
  obtain ⟨i, hi', hzz⟩ := Option.map_eq_some_iff.1 zero37
  simp only [Prod.mk.injEq] at hzz
  obtain ⟨hz, hs, hby⟩ := hzz
  have HI := hidm hi'
  have HZ := hidm hz
  have HS := hidm hs
  have HBY := hidm hby
  clear hi' hz hs hby
  have hown : (w.alloc (.cells #[] 37)).ownsRow w.heap.size 37 2 (.slice (some ⟨w.heap.size, 0, none⟩) 0 0) 0 [] :=
    ⟨rfl, Or.inr ⟨w.heap.size, 0, #[], rfl, Nat.le_refl _, heap_alloc_new _ _, Nat.le_refl _, by simp [maxLen], rfl, rfl⟩⟩
  have HOwn := hidm hown
  clear hown
  have hnews : ∀ j u, (flat n lo hi)[j]? = some u → (w.alloc (.cells #[] 37)).cell? ((⟨b, o, none⟩ : Addr).add j) = some u := by
    intro j u hj
    have hjl : j < n * 2 := by
      have := (List.getElem?_eq_some_iff.1 hj).1
      rwa [flat_length] at this
    rw [flat_get hjl] at hj
    obtain ⟨c1, c2⟩ := hc (j / 2) (by omega)
    have e : (w.alloc (.cells #[] 37)).cell? (⟨b, o + j, none⟩ : Addr) = w.cell? ⟨b, o + j, none⟩ := Below.cell ((Below.refl _ w).alloc (Nat.le_refl _) _) (by exact hb)
    rw [Addr.add_lit, e, ← hj]
    by_cases h2 : j % 2 = 0
    · rw [if_pos h2, ← c1, show o + j / 2 * 2 = o + j by omega]
    · rw [if_neg h2, ← c2, show o + j / 2 * 2 + 1 = o + j by omega]
  have HNews := hidm hnews
  clear hnews hc
  go_enter Try.func26, Try.ntmps26
  go_wp2_with (at_builtin; refine wpList_append_own _ rfl (.tmp 5) (.tmp 6) 78 rfl w.heap.size 37 i (.agg #[.string ⟨#[]⟩, .string ⟨#[]⟩]) 2 32 Try.underlying78 HI.out HZ.out HS.out HBY.out rfl (by decide) _ 0 [] rfl HOwn.out ⟨b, o, none⟩ n c (flat n lo hi) rfl (flat_length _ _ _) HNews.out (flat_one _ _ _) ?c1 ?c2 ?c3 ?_)
  case c1 => simp [maxLen]; omega
  case c2 => omega
  case c3 => simp
  intro v' w' hown' hgr hnil
  rcases hown'.2 with ⟨rfl, hz⟩ | ⟨g, cap, cur, rfl, hg, hh, hcap, _, hsz, _⟩
  · omega
  have hbw : Below w.heap.size w w' := ((Below.refl _ w).alloc (Nat.le_refl _) _).grown hgr (by simp) (by intro k hk; injection hk with hk; simp at hk; omega)
  have hcell := hown'.cells (g := g) rfl
  have HC := hidm hcell
  have HH := hidm hh
  have HB := hidm hbw
  have HCAP := hidm hcap
  have HSZ := hidm hsz
  have HG := hidm hg
  clear hown' hgr hnil hcell hh hbw hcap hsz hg
  go_wp2
  go_ret
  have hlt : g < w'.heap.size := (Array.getElem?_eq_some_iff.1 HH.out).1
  refine ⟨g, cap, by simp, HG.out, hlt, ⟨fun i hi => ?_, unf_of HH.out⟩, fun j hj => ⟨?_, ?_⟩, HB.out⟩
  · have hcp := HCAP.out
    rw [cells_box HH.out]
    simp only [Array.getElem?_eq_getElem (show i < cur.size by rw [HSZ.out]; omega), Option.isSome_some]
  · have := HC.out (j * 2) _ (flat_even hj)
    simpa [Addr.add_lit] using this
  · have := HC.out (j * 2 + 1) _ (flat_odd hj)
    simpa [Addr.add_lit] using this
end Go.Proofs.Qxb6623423a.Seat
