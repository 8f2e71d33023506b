/- Seat b6623403a: the walk of FnScopesStringSplitsBack. -/
import Derived.Test.Qxb6623403aSeatString
import Derived.Test.Qxb6623403aSeatPos
import Derived.Deep.QuietTactic
import Derived.BigQuiet
namespace Go.Proofs.Qxb6623403a.Seat
open Go.RowKit

/-- The first t bytes of x are no blank. -/
def NoBlank (x : ByteArray) (t : Nat) : Prop := ∀ u, ∀ h : u < x.size, u < t → ((x[u]'h).toNat : Int) ≠ 32
/-- Each of the first k scopes is not empty and holds no blank. -/
def Clean (S : Nat → ByteArray) (k : Nat) : Prop := ∀ i, i < k → 0 < (S i).size ∧ NoBlank (S i) (S i).size

theorem NoBlank.next {x : ByteArray} {t : Nat} (h : NoBlank x t) (ht : t < x.size) (hb : ((x[t]'ht).toNat : Int) ≠ 32) : NoBlank x (t + 1) := by
  intro u hu hut
  by_cases e : u = t
  · subst e; exact hb
  · exact h u hu (by omega)
theorem Clean.next {S : Nat → ByteArray} {k : Nat} (h : Clean S k) (h0 : 0 < (S k).size) (hb : NoBlank (S k) (S k).size) : Clean S (k + 1) := by
  intro i hi
  by_cases e : i = k
  · subst e; exact ⟨h0, hb⟩
  · exact h i (by omega)

theorem below_drewN {B : Nat} {a w : World} (h : Below B a w) (n : Nat) : Below B a (w.drewN n) := ⟨h.os, h.tape, h.output, h.size, h.block⟩

set_option maxHeartbeats 1000000 in
theorem split_walk (a : Option Addr) (n c : Nat) (S : Nat → ByteArray) (w : World) (hx : n ≤ maxLen) (hs : ∀ j, j < n → (S j).size ≤ maxLen) (hc : Strs w a n S) :
    Calls Try.prog 4 #[.slice a n c] w fun e w' => e = .returned (.bool true) ∧ Below w.heap.size w w' := by
  have hB := hidm (bytes7 a n c S w hx hs hc)
  have HC := hidm hc
  clear hc hs
  unfold maxLen at hx
  go_enter Try.func4, Try.ntmps4
  go_wp2_with fail
  refine (Hid.out hB).mono ?_
  rintro e w' ⟨hT, hw⟩
  obtain rfl := hw.symm
  clear hB hw
  rcases hT with rfl | ⟨rfl, hSm⟩
  · go_wp2
    go_ret
    exact ⟨rfl, Below.refl _ _⟩
  have HS := hidm hSm
  clear hSm
  by_cases n1 : 65536 < n
  · have n1' : (65536 : Int) < (n : Int) := by omega
    go_wp2
    go_ret
    exact ⟨rfl, Below.refl _ _⟩
  go_wp2
  go_loop [3, 4] (fun z i => ∃ (k : Nat), k ≤ n ∧ i = .int .i64 k ∧ z = .int .i64 (tot S k : Int) ∧ tot S k ≤ 1048576) (fun _ i => n - (intOf i).toNat)
  case atStart => exact ⟨0, Nat.zero_le _, rfl, by simp [tot], by simp [tot]⟩
  case round =>
    obtain ⟨k, hk, rfl, rfl, hq⟩ := hrel
    by_cases hlt : k < n
    · rcases HC.out with h0 | ⟨b, o, rfl, hb, hcell⟩
      · omega
      have hcx := hcell k hlt
      have hsx : (S k).size ≤ 1048576 := HS.out k hlt
      have HT : Hid (tot S (k + 1) = tot S k + 16 + (S k).size) := rfl
      clear hcell
      go_wp2
      · go_ret; exact ⟨rfl, Below.refl _ _⟩
      · go_round
        case rel => exact ⟨k + 1, by omega, by go_num, by rw [HT.out]; go_num, by rw [HT.out]; omega⟩
        case measure => simp [intOf]; omega
    · have hke : k = n := by omega
      subst hke
      go_wp2
      go_loop [5] (fun i => ∃ m : Nat, m ≤ k ∧ i = .int .i64 m ∧ Hid (Clean S m)) (fun i => k - (intOf i).toNat)
      case atStart => exact ⟨0, Nat.zero_le _, rfl, fun j hj => absurd hj (Nat.not_lt_zero _)⟩
      case round =>
        obtain ⟨m, hm, rfl, HK⟩ := hrel
        by_cases hlt2 : m < k
        · rcases HC.out with h0 | ⟨b, o, rfl, hb, hcell⟩
          · omega
          have hcx := hcell m hlt2
          have hsx : (S m).size ≤ 1048576 := HS.out m hlt2
          clear hcell
          by_cases he : (S m).size = 0
          · have he' : (((S m).size : Int) == 0) = true := beq_iff_eq.2 (by omega)
            clear he
            go_wp2
            go_ret; exact ⟨rfl, Below.refl _ _⟩
          · have he' : (((S m).size : Int) == 0) = false := beq_eq_false_iff_ne.2 (by omega)
            go_wp2
            go_loop [6] (fun i => ∃ t : Nat, t ≤ (S m).size ∧ i = .int .i64 t ∧ Hid (NoBlank (S m) t)) (fun i => (S m).size - (intOf i).toNat)
            case atStart => exact ⟨0, Nat.zero_le _, rfl, fun u _ hu => absurd hu (Nat.not_lt_zero _)⟩
            case round =>
              obtain ⟨t, ht, rfl, HN⟩ := hrel
              by_cases hlt3 : t < (S m).size
              · go_wp2
                · go_ret; exact ⟨rfl, Below.refl _ _⟩
                · go_round
                  case rel => exact ⟨t + 1, by omega, by go_num, NoBlank.next HN.out hlt3 (beq_eq_false_iff_ne.1 (by assumption))⟩
                  case measure => simp [intOf]; omega
              · have hte : t = (S m).size := by omega
                subst hte
                go_wp2
                go_round
                case rel => exact ⟨m + 1, by omega, by go_num, Clean.next HK.out (by omega) HN.out⟩
                case measure => simp [intOf]; omega
        · have hme : m = k := by omega
          subst hme
          have HG := hidm (string_any a m c S w (by omega) HC.out (Nat.le_trans (joined_le _ _) (by omega)))
          go_wp2_with fail
          refine (Hid.out HG).mono ?_
          rintro e w3 ⟨he, hb3⟩
          obtain rfl : e = .returned (.string (text S m)) := he
          clear HG
          by_cases hz : m = 0
          · subst hz
            have ht0 : ((text S 0).toList == []) = true := by rw [Lib.toList_data]; rfl
            go_wp2
            go_ret
            exact ⟨rfl, hb3⟩
          have hz' : ((m : Int) == 0) = false := beq_eq_false_iff_ne.2 (by omega)
          have hz1 : 0 < m := by omega
          have HF : Hid ((text S m).size + 1 = pos S m) := by
            obtain ⟨n, rfl⟩ : ∃ n, m = n + 1 := ⟨m - 1, by omega⟩
            exact text_size S n
          have HX : Hid (∀ k, k < m → (text S m).extract (pos S k) (pos S k + (S k).size) = S k) := by
            obtain ⟨n, rfl⟩ : ∃ n, m = n + 1 := ⟨m - 1, by omega⟩
            exact text_extract S n
          have HBl : Hid (∀ k, k + 1 < m → ∀ h : pos S k + (S k).size < (text S m).size, (((text S m)[pos S k + (S k).size]'h).toNat : Int) = 32) := by
            obtain ⟨n, rfl⟩ : ∃ n, m = n + 1 := ⟨m - 1, by omega⟩
            exact fun k hk h => text_blank S n k (by omega) h
          have HSc : Hid (∀ k, k < m → ∀ t, ∀ ht : t < (S k).size, ∀ h : pos S k + t < (text S m).size, (text S m)[pos S k + t]'h = (S k)[t]'ht) := by
            obtain ⟨n, rfl⟩ : ∃ n, m = n + 1 := ⟨m - 1, by omega⟩
            exact fun k hk t ht h => text_scope S n k t hk ht h
          clear hz
          have hos : (text S m).size ≤ 1048576 := Nat.le_trans (joined_le S m) hq
          generalize text S m = out at *
          go_wp2
          go_loopw [8, 9, 10] (fun st kk jj wr => ∃ k j : Nat, st = .int .i64 (pos S k : Nat) ∧ kk = .int .i64 k ∧ jj = .int .i64 j ∧ k ≤ m ∧ pos S k ≤ j ∧ (k < m → j ≤ pos S k + (S k).size) ∧ (k = m → j = pos S m) ∧ Below w.heap.size w wr) (fun _ _ jj _ => out.size + 1 - (intOf jj).toNat)
          case atStart => exact ⟨0, 0, rfl, rfl, rfl, Nat.zero_le _, Nat.le_refl _, fun _ => Nat.zero_le _, fun h => by omega, hb3⟩
          case round =>
            obtain ⟨k, j, rfl, rfl, rfl, hkm, hpj, hj1, hj2, hbel⟩ := hrel
            clear hb3
            by_cases hkk : k < m
            · rcases HC.out with h0 | ⟨b, o, rfl, hb, hcell⟩
              · omega
              have hcx : wr.cell? ⟨b, o + k, none⟩ = some (.string (S k)) := (hbel.cell (by exact hb)).trans (hcell k hkk)
              have hj3 := hj1 hkk
              have hcl := (HK.out k hkk).2
              have hmono := pos_mono S (k + 1) m (by omega)
              have hp1 : pos S (k + 1) = pos S k + (S k).size + 1 := rfl
              have hF := HF.out
              clear hj1 hj2 hcell
              by_cases hend : j = pos S k + (S k).size
              · have hex : out.extract (pos S k) j = S k := by rw [hend]; exact HX.out k hkk
                have hkm2 : ¬ (m : Int) ≤ (k : Int) := by omega
                have hpo : pos S k ≤ out.size := by omega
                have HP1 := hidm hp1
                have HE := hidm hend
                have HH := hidm hcl
                have HFF := hidm hF
                by_cases hlast : k + 1 = m
                · have hpm : pos S (k + 1) = pos S m := by rw [hlast]
                  have hjl : ((j : Int) == (out.size : Int)) = true := beq_iff_eq.2 (by omega)
                  have hjo : j ≤ out.size := by omega
                  have HPM := hidm hpm
                  have HL := hidm hlast
                  clear hF hp1 hcl hend hlast hpm
                  go_wp2
                  go_quiet (fail)
                  go_wp2
                  go_roundw
                  case rel => exact ⟨k + 1, j + 1, by rw [HP1.out, HE.out]; go_num, by go_num, by go_num, by omega, by rw [HP1.out, HE.out]; omega, fun h => absurd h (by rw [HL.out]; omega), fun _ => by rw [← HPM.out, HP1.out, HE.out], below_drewN hbel nq⟩
                  case measure => simp [intOf]; omega
                · have hmono2 := pos_mono S (k + 1 + 1) m (by omega)
                  have hp2 : pos S (k + 1 + 1) = pos S (k + 1) + (S (k + 1)).size + 1 := rfl
                  have hjo : j < out.size := by omega
                  have hjl : ((j : Int) == (out.size : Int)) = false := beq_eq_false_iff_ne.2 (by omega)
                  have hbl : ((out[j].toNat : Int) == 32) = true := by
                    have e := HBl.out k (by omega) (by omega)
                    apply beq_iff_eq.2
                    have e3 : pos S k + (S k).size = j := hend.symm
                    simpa only [e3] using e
                  have HP2 := hidm hp2
                  clear hF hp1 hp2 hcl hend
                  go_wp2
                  go_quiet (fail)
                  go_wp2
                  go_roundw
                  case rel => exact ⟨k + 1, j + 1, by rw [HP1.out, HE.out]; go_num, by go_num, by go_num, by omega, by rw [HP1.out, HE.out]; omega, fun h => by rw [HP1.out, HE.out]; omega, fun h => absurd h hlast, below_drewN hbel nq⟩
                  case measure => simp [intOf]; omega
              · have hjo : j < out.size := by omega
                have hnb : ((out[j].toNat : Int) == 32) = false := by
                  have e := HSc.out k hkk (j - pos S k) (by omega) (by omega)
                  have h2 := hcl (j - pos S k) (by omega) (by omega)
                  rw [← e] at h2
                  apply beq_eq_false_iff_ne.2
                  have e3 : pos S k + (j - pos S k) = j := by omega
                  simpa only [e3] using h2
                have hjl : ((j : Int) == (out.size : Int)) = false := beq_eq_false_iff_ne.2 (by omega)
                have HP1 := hidm hp1
                have HH := hidm hcl
                clear hF hp1 hcl
                go_wp2
                go_roundw
                case rel => exact ⟨k, j + 1, rfl, rfl, by go_num, hkm, by omega, fun _ => by omega, fun h => by omega, hbel⟩
                case measure => simp [intOf]; omega
            · have hkm' : k = m := by omega
              subst hkm'
              have hje := hj2 rfl
              have hF := HF.out
              have hlt : (out.size : Int) < (j : Int) := by omega
              have HH := hidm hje
              clear hF hje hj1 hj2
              go_wp2
              go_ret
              exact ⟨rfl, hbel⟩
end Go.Proofs.Qxb6623403a.Seat
