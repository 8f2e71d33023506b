/- Seat b6623423a: zzBytes: the loops over the uncles, the slots and the neighbours (laid by a small generator over the function's list of operations). -/
import Derived.Test.Qxb6623423aSeatBy2
namespace Go.Proofs.Qxb6623423a.Seat
open Go.RowKit

section
variable {W : World} {N : Nat} {f t : ByteArray} {Q : Exit → Act → World → Prop} {L0 : List (Nat × Value)}
theorem by_urow {s i tn tc tb tq rc : Nat} {ta ra : Option Addr} {R : RowU} (hs : s < 2) (hT : W.cell? ⟨N, 13 + s, none⟩ = some (.slice ta tn tc)) (hta : ta = some ⟨tb, tq, none⟩) (hi : i < tn) (hR : W.cell? ⟨tb, tq + i, none⟩ = some (.slice ra R.n rc)) (hrow : RowUIn W ra R) (hrn : R.n ≤ 1048576)
    (hL : SubL ((17, .int .i64 ((0 : Nat) : Int)) :: [(16, .int .i64 ((i : Nat) : Int)), (15, .int .i64 ((s : Nat) : Int)), (3, .pointer (some ⟨N, 0, none⟩)), (1, .string f), (2, .string t)]) L0) (hr : HR Q W) (hq : ∀ a, Frm [(16, .int .i64 ((i : Nat) : Int)), (15, .int .i64 ((s : Nat) : Int)), (3, .pointer (some ⟨N, 0, none⟩)), (1, .string f), (2, .string t)] a → Q .normal a W) :
    Wc Q W L0 ((findB 18 (Try.f4.body.getD .skip)).getD .skip) := by
  conv => arg 4; whnf
  refine Wc_for (fun _ => True) R.n 17 [(16, .int .i64 ((i : Nat) : Int)), (15, .int .i64 ((s : Nat) : Int)), (3, .pointer (some ⟨N, 0, none⟩)), (1, .string f), (2, .string t)] hL trivial hrn rfl rfl rfl rfl rfl ?_ ?_ hr (fun hI a ha => hq a (ha.sub (SubL.cons rfl (SubL.cons rfl (SubL.cons rfl (SubL.cons rfl (SubL.cons rfl SubL.nil)))))))
  · intro d ops Q1 hk hend
    refine Wl_move rfl rfl ?_
    refine Wl_move rfl rfl ?_
    refine Wl_field rfl rfl ?_
    refine Wl_idxA hs rfl rfl rfl ?_
    refine Wl_loadL hT rfl rfl ?_
    refine Wl_move rfl rfl ?_
    refine Wl_idx1 hi hta rfl rfl rfl ?_
    refine Wl_loadL hR rfl rfl ?_
    refine Wl_lenL rfl rfl ?_
    refine Wl_lss rfl rfl rfl ?_
    exact Wl_nil (hend _ (SubL.cons rfl (SubL.cons rfl (SubL.cons rfl (SubL.cons rfl (SubL.cons rfl (SubL.cons rfl SubL.nil)))))) rfl)
  · intro d Q1 hk hI hr hend
    rcases hrow.2 with h0 | ⟨rb, rq, hra, _, hE⟩
    · omega
    obtain ⟨e0, e1, e2⟩ := hE d hk
    refine Wc_seq (Wc_rs ?_)
    refine Wl_move rfl rfl ?_
    refine Wl_field rfl rfl ?_
    refine Wl_idxA hs rfl rfl rfl ?_
    refine Wl_loadL hT rfl rfl ?_
    refine Wl_move rfl rfl ?_
    refine Wl_idx1 hi hta rfl rfl rfl ?_
    refine Wl_loadL hR rfl rfl ?_
    refine Wl_move rfl rfl ?_
    refine Wl_idxS hk hra rfl rfl rfl ?_
    refine Wl_field rfl rfl ?_
    refine Wl_loadS e0 rfl rfl ?_
    refine Wl_lenS rfl rfl ?_
    refine Wl_gtr rfl rfl ?_
    refine Wl_end (Wc_guard_m hr rfl fun _ => ?_)
    refine Wc_sub (l := [(17, .int .i64 ((d : Nat) : Int)), (16, .int .i64 ((i : Nat) : Int)), (15, .int .i64 ((s : Nat) : Int)), (3, .pointer (some ⟨N, 0, none⟩)), (1, .string f), (2, .string t)]) (SubL.cons rfl (SubL.cons rfl (SubL.cons rfl (SubL.cons rfl (SubL.cons rfl (SubL.cons rfl SubL.nil)))))) ?_
    refine Wc_rs ?_
    refine Wl_move7 rfl fun _ => ?_
    refine Wl_move rfl rfl ?_
    refine Wl_field rfl rfl ?_
    refine Wl_idxA hs rfl rfl rfl ?_
    refine Wl_loadL hT rfl rfl ?_
    refine Wl_move rfl rfl ?_
    refine Wl_idx1 hi hta rfl rfl rfl ?_
    refine Wl_loadL hR rfl rfl ?_
    refine Wl_move rfl rfl ?_
    refine Wl_idxS hk hra rfl rfl rfl ?_
    refine Wl_field rfl rfl ?_
    refine Wl_loadS e0 rfl rfl ?_
    refine Wl_lenS rfl rfl ?_
    refine Wl_add rfl rfl rfl fun _ => ?_
    refine Wl_assign7 rfl rfl ?_
    refine Wl_end ?_
    refine Wc_seq (Wc_rs ?_)
    refine Wl_move7 rfl fun _ => ?_
    refine Wl_gtr rfl rfl ?_
    refine Wl_end (Wc_guard_m hr rfl fun _ => ?_)
    refine Wc_sub (l := [(17, .int .i64 ((d : Nat) : Int)), (16, .int .i64 ((i : Nat) : Int)), (15, .int .i64 ((s : Nat) : Int)), (3, .pointer (some ⟨N, 0, none⟩)), (1, .string f), (2, .string t)]) (SubL.cons rfl (SubL.cons rfl (SubL.cons rfl (SubL.cons rfl (SubL.cons rfl (SubL.cons rfl SubL.nil)))))) ?_
    refine Wc_seq (Wc_rs ?_)
    refine Wl_move rfl rfl ?_
    refine Wl_field rfl rfl ?_
    refine Wl_idxA hs rfl rfl rfl ?_
    refine Wl_loadL hT rfl rfl ?_
    refine Wl_move rfl rfl ?_
    refine Wl_idx1 hi hta rfl rfl rfl ?_
    refine Wl_loadL hR rfl rfl ?_
    refine Wl_move rfl rfl ?_
    refine Wl_idxS hk hra rfl rfl rfl ?_
    refine Wl_field rfl rfl ?_
    refine Wl_field rfl rfl ?_
    refine Wl_loadS e1 rfl rfl ?_
    refine Wl_lenS rfl rfl ?_
    refine Wl_gtr rfl rfl ?_
    refine Wl_end (Wc_guard_m hr rfl fun _ => ?_)
    refine Wc_sub (l := [(17, .int .i64 ((d : Nat) : Int)), (16, .int .i64 ((i : Nat) : Int)), (15, .int .i64 ((s : Nat) : Int)), (3, .pointer (some ⟨N, 0, none⟩)), (1, .string f), (2, .string t)]) (SubL.cons rfl (SubL.cons rfl (SubL.cons rfl (SubL.cons rfl (SubL.cons rfl (SubL.cons rfl SubL.nil)))))) ?_
    refine Wc_rs ?_
    refine Wl_move7 rfl fun _ => ?_
    refine Wl_move rfl rfl ?_
    refine Wl_field rfl rfl ?_
    refine Wl_idxA hs rfl rfl rfl ?_
    refine Wl_loadL hT rfl rfl ?_
    refine Wl_move rfl rfl ?_
    refine Wl_idx1 hi hta rfl rfl rfl ?_
    refine Wl_loadL hR rfl rfl ?_
    refine Wl_move rfl rfl ?_
    refine Wl_idxS hk hra rfl rfl rfl ?_
    refine Wl_field rfl rfl ?_
    refine Wl_field rfl rfl ?_
    refine Wl_loadS e1 rfl rfl ?_
    refine Wl_lenS rfl rfl ?_
    refine Wl_add rfl rfl rfl fun _ => ?_
    refine Wl_assign7 rfl rfl ?_
    refine Wl_end ?_
    refine Wc_seq (Wc_rs ?_)
    refine Wl_move7 rfl fun _ => ?_
    refine Wl_gtr rfl rfl ?_
    refine Wl_end (Wc_guard_m hr rfl fun _ => ?_)
    refine Wc_sub (l := [(17, .int .i64 ((d : Nat) : Int)), (16, .int .i64 ((i : Nat) : Int)), (15, .int .i64 ((s : Nat) : Int)), (3, .pointer (some ⟨N, 0, none⟩)), (1, .string f), (2, .string t)]) (SubL.cons rfl (SubL.cons rfl (SubL.cons rfl (SubL.cons rfl (SubL.cons rfl (SubL.cons rfl SubL.nil)))))) ?_
    refine Wc_seq (Wc_rs ?_)
    refine Wl_move rfl rfl ?_
    refine Wl_field rfl rfl ?_
    refine Wl_idxA hs rfl rfl rfl ?_
    refine Wl_loadL hT rfl rfl ?_
    refine Wl_move rfl rfl ?_
    refine Wl_idx1 hi hta rfl rfl rfl ?_
    refine Wl_loadL hR rfl rfl ?_
    refine Wl_move rfl rfl ?_
    refine Wl_idxS hk hra rfl rfl rfl ?_
    refine Wl_field rfl rfl ?_
    refine Wl_field rfl rfl ?_
    refine Wl_loadS e2 rfl rfl ?_
    refine Wl_lenS rfl rfl ?_
    refine Wl_gtr rfl rfl ?_
    refine Wl_end (Wc_guard_m hr rfl fun _ => ?_)
    refine Wc_sub (l := [(17, .int .i64 ((d : Nat) : Int)), (16, .int .i64 ((i : Nat) : Int)), (15, .int .i64 ((s : Nat) : Int)), (3, .pointer (some ⟨N, 0, none⟩)), (1, .string f), (2, .string t)]) (SubL.cons rfl (SubL.cons rfl (SubL.cons rfl (SubL.cons rfl (SubL.cons rfl (SubL.cons rfl SubL.nil)))))) ?_
    refine Wc_rs ?_
    refine Wl_move7 rfl fun _ => ?_
    refine Wl_move rfl rfl ?_
    refine Wl_field rfl rfl ?_
    refine Wl_idxA hs rfl rfl rfl ?_
    refine Wl_loadL hT rfl rfl ?_
    refine Wl_move rfl rfl ?_
    refine Wl_idx1 hi hta rfl rfl rfl ?_
    refine Wl_loadL hR rfl rfl ?_
    refine Wl_move rfl rfl ?_
    refine Wl_idxS hk hra rfl rfl rfl ?_
    refine Wl_field rfl rfl ?_
    refine Wl_field rfl rfl ?_
    refine Wl_loadS e2 rfl rfl ?_
    refine Wl_lenS rfl rfl ?_
    refine Wl_add rfl rfl rfl fun _ => ?_
    refine Wl_assign7 rfl rfl ?_
    refine Wl_end ?_
    refine Wc_rs ?_
    refine Wl_move7 rfl fun _ => ?_
    refine Wl_gtr rfl rfl ?_
    refine Wl_end (Wc_guard hr rfl fun _ a ha => hend trivial a (ha.sub (SubL.cons rfl (SubL.cons rfl (SubL.cons rfl (SubL.cons rfl (SubL.cons rfl (SubL.cons rfl SubL.nil))))))))

theorem by_utab {s tc : Nat} {ta : Option Addr} {T : TabU} (hs : s < 2) (hT : W.cell? ⟨N, 13 + s, none⟩ = some (.slice ta T.n tc)) (htab : TabUIn W ta T) (htn : T.n ≤ 1048576)
    (hL : SubL ((16, .int .i64 ((0 : Nat) : Int)) :: [(15, .int .i64 ((s : Nat) : Int)), (3, .pointer (some ⟨N, 0, none⟩)), (1, .string f), (2, .string t)]) L0) (hr : HR Q W) (hq : (∀ j, j < T.n → (T.r j).n ≤ 1048576) → ∀ a, Frm [(15, .int .i64 ((s : Nat) : Int)), (3, .pointer (some ⟨N, 0, none⟩)), (1, .string f), (2, .string t)] a → Q .normal a W) :
    Wc Q W L0 ((findB 16 (Try.f4.body.getD .skip)).getD .skip) := by
  conv => arg 4; whnf
  refine Wc_for (fun k => ∀ j, j < k → (T.r j).n ≤ 1048576) T.n 16 [(15, .int .i64 ((s : Nat) : Int)), (3, .pointer (some ⟨N, 0, none⟩)), (1, .string f), (2, .string t)] hL all_zero htn rfl rfl rfl rfl rfl ?_ ?_ hr (fun hI a ha => hq hI a (ha.sub (SubL.cons rfl (SubL.cons rfl (SubL.cons rfl (SubL.cons rfl SubL.nil))))))
  · intro i ops Q1 hk hend
    refine Wl_move rfl rfl ?_
    refine Wl_move rfl rfl ?_
    refine Wl_field rfl rfl ?_
    refine Wl_idxA hs rfl rfl rfl ?_
    refine Wl_loadL hT rfl rfl ?_
    refine Wl_lenL rfl rfl ?_
    refine Wl_lss rfl rfl rfl ?_
    exact Wl_nil (hend _ (SubL.cons rfl (SubL.cons rfl (SubL.cons rfl (SubL.cons rfl (SubL.cons rfl SubL.nil))))) rfl)
  · intro i Q1 hk hI hr hend
    rcases htab.2 with h0 | ⟨tb, tq, hta, _, hX⟩
    · omega
    obtain ⟨ra, rc, hR, hrow⟩ := hX i hk
    refine Wc_seq (Wc_rs ?_)
    refine Wl_move rfl rfl ?_
    refine Wl_field rfl rfl ?_
    refine Wl_idxA hs rfl rfl rfl ?_
    refine Wl_loadL hT rfl rfl ?_
    refine Wl_move rfl rfl ?_
    refine Wl_idx1 hk hta rfl rfl rfl ?_
    refine Wl_loadL hR rfl rfl ?_
    refine Wl_lenL rfl rfl ?_
    refine Wl_gtr rfl rfl ?_
    refine Wl_end (Wc_guard_m hr rfl fun g1 => ?_)
    refine Wc_sub (l := [(16, .int .i64 ((i : Nat) : Int)), (15, .int .i64 ((s : Nat) : Int)), (3, .pointer (some ⟨N, 0, none⟩)), (1, .string f), (2, .string t)]) (SubL.cons rfl (SubL.cons rfl (SubL.cons rfl (SubL.cons rfl (SubL.cons rfl SubL.nil))))) ?_
    refine Wc_rs ?_
    refine Wl_move7 rfl fun _ => ?_
    refine Wl_move rfl rfl ?_
    refine Wl_field rfl rfl ?_
    refine Wl_idxA hs rfl rfl rfl ?_
    refine Wl_loadL hT rfl rfl ?_
    refine Wl_move rfl rfl ?_
    refine Wl_idx1 hk hta rfl rfl rfl ?_
    refine Wl_loadL hR rfl rfl ?_
    refine Wl_lenL rfl rfl ?_
    refine Wl_add rfl rfl rfl fun _ => ?_
    refine Wl_assign7 rfl rfl ?_
    refine Wl_end ?_
    refine Wc_seq (Wc_rs ?_)
    refine Wl_move7 rfl fun _ => ?_
    refine Wl_gtr rfl rfl ?_
    refine Wl_end (Wc_guard_m hr rfl fun _ => ?_)
    refine Wc_sub (l := [(16, .int .i64 ((i : Nat) : Int)), (15, .int .i64 ((s : Nat) : Int)), (3, .pointer (some ⟨N, 0, none⟩)), (1, .string f), (2, .string t)]) (SubL.cons rfl (SubL.cons rfl (SubL.cons rfl (SubL.cons rfl (SubL.cons rfl SubL.nil))))) ?_
    refine Wc_rs ?_
    refine Wl_assignc rfl ?_
    refine Wl_end ?_
    exact by_urow hs hT hta hk hR hrow (by omega) (SubL.cons rfl (SubL.cons rfl (SubL.cons rfl (SubL.cons rfl (SubL.cons rfl (SubL.cons rfl SubL.nil)))))) hr (hend (all_succ hI (by omega)))

theorem by_utabs {A : Adr} {D : Plc} (hTs : ∀ s, s < 2 → W.cell? ⟨N, 13 + s, none⟩ = some (.slice (A.ua s) (D.u s).n (A.uc s))) (hTab : ∀ s, s < 2 → TabUIn W (A.ua s) (D.u s))
    (hL : SubL ((15, .int .i64 ((0 : Nat) : Int)) :: [(3, .pointer (some ⟨N, 0, none⟩)), (1, .string f), (2, .string t)]) L0) (hr : HR Q W) (hq : (∀ j, j < 2 → TabUOk (D.u j)) → ∀ a, Frm [(3, .pointer (some ⟨N, 0, none⟩)), (1, .string f), (2, .string t)] a → Q .normal a W) :
    Wc Q W L0 ((findB 14 (Try.f4.body.getD .skip)).getD .skip) := by
  conv => arg 4; whnf
  refine Wc_for (fun k => ∀ j, j < k → TabUOk (D.u j)) 2 15 [(3, .pointer (some ⟨N, 0, none⟩)), (1, .string f), (2, .string t)] hL all_zero (by decide) rfl rfl rfl rfl rfl ?_ ?_ hr (fun hI a ha => hq hI a (ha.sub (SubL.cons rfl (SubL.cons rfl (SubL.cons rfl SubL.nil)))))
  · intro s ops Q1 hk hend
    refine Wl_move rfl rfl ?_
    refine Wl_lss2 rfl rfl ?_
    exact Wl_nil (hend _ (SubL.cons rfl (SubL.cons rfl (SubL.cons rfl (SubL.cons rfl SubL.nil)))) rfl)
  · intro s Q1 hk hI hr hend
    refine Wc_seq (Wc_rs ?_)
    refine Wl_move rfl rfl ?_
    refine Wl_field rfl rfl ?_
    refine Wl_idxA hk rfl rfl rfl ?_
    refine Wl_loadL (hTs s hk) rfl rfl ?_
    refine Wl_lenL rfl rfl ?_
    refine Wl_gtr rfl rfl ?_
    refine Wl_end (Wc_guard_m hr rfl fun g1 => ?_)
    refine Wc_sub (l := [(15, .int .i64 ((s : Nat) : Int)), (3, .pointer (some ⟨N, 0, none⟩)), (1, .string f), (2, .string t)]) (SubL.cons rfl (SubL.cons rfl (SubL.cons rfl (SubL.cons rfl SubL.nil)))) ?_
    refine Wc_rs ?_
    refine Wl_move7 rfl fun _ => ?_
    refine Wl_move rfl rfl ?_
    refine Wl_field rfl rfl ?_
    refine Wl_idxA hk rfl rfl rfl ?_
    refine Wl_loadL (hTs s hk) rfl rfl ?_
    refine Wl_lenL rfl rfl ?_
    refine Wl_add rfl rfl rfl fun _ => ?_
    refine Wl_assign7 rfl rfl ?_
    refine Wl_end ?_
    refine Wc_seq (Wc_rs ?_)
    refine Wl_move7 rfl fun _ => ?_
    refine Wl_gtr rfl rfl ?_
    refine Wl_end (Wc_guard_m hr rfl fun _ => ?_)
    refine Wc_sub (l := [(15, .int .i64 ((s : Nat) : Int)), (3, .pointer (some ⟨N, 0, none⟩)), (1, .string f), (2, .string t)]) (SubL.cons rfl (SubL.cons rfl (SubL.cons rfl (SubL.cons rfl SubL.nil)))) ?_
    refine Wc_rs ?_
    refine Wl_assignc rfl ?_
    refine Wl_end ?_
    exact by_utab hk (hTs s hk) (hTab s hk) (by omega) (SubL.cons rfl (SubL.cons rfl (SubL.cons rfl (SubL.cons rfl (SubL.cons rfl SubL.nil))))) hr (fun hrows => (hend (all_succ hI ⟨by omega, hrows⟩)))

theorem by_slots {sa : Option Addr} {sn sc : Nat} {sl : Nat → Slt} (h8 : W.cell? ⟨N, 8, none⟩ = some (.slice sa sn sc)) (hrow : SltRow W sa sn sl) (hsn : sn ≤ 1048576)
    (hL : SubL ((8, .int .i64 ((0 : Nat) : Int)) :: [(3, .pointer (some ⟨N, 0, none⟩)), (1, .string f), (2, .string t)]) L0) (hr : HR Q W) (hq : ∀ a, Frm [(3, .pointer (some ⟨N, 0, none⟩)), (1, .string f), (2, .string t)] a → Q .normal a W) :
    Wc Q W L0 ((findB 0 (Try.f4.body.getD .skip)).getD .skip) := by
  conv => arg 4; whnf
  refine Wc_for (fun _ => True) sn 8 [(3, .pointer (some ⟨N, 0, none⟩)), (1, .string f), (2, .string t)] hL trivial hsn rfl rfl rfl rfl rfl ?_ ?_ hr (fun hI a ha => hq a (ha.sub (SubL.cons rfl (SubL.cons rfl (SubL.cons rfl SubL.nil)))))
  · intro i ops Q1 hk hend
    refine Wl_move rfl rfl ?_
    refine Wl_field rfl rfl ?_
    refine Wl_loadL h8 rfl rfl ?_
    refine Wl_lenL rfl rfl ?_
    refine Wl_lss rfl rfl rfl ?_
    exact Wl_nil (hend _ (SubL.cons rfl (SubL.cons rfl (SubL.cons rfl (SubL.cons rfl SubL.nil)))) rfl)
  · intro i Q1 hk hI hr hend
    rcases hrow with h0 | ⟨sb, sq, hsa, _, hE⟩
    · omega
    obtain ⟨s0, s1, s2, _, _⟩ := hE i hk
    refine Wc_seq (Wc_rs ?_)
    refine Wl_field rfl rfl ?_
    refine Wl_loadL h8 rfl rfl ?_
    refine Wl_move rfl rfl ?_
    refine Wl_idxS hk hsa rfl rfl rfl ?_
    refine Wl_field rfl rfl ?_
    refine Wl_loadS s0 rfl rfl ?_
    refine Wl_lenS rfl rfl ?_
    refine Wl_gtr rfl rfl ?_
    refine Wl_end (Wc_guard_m hr rfl fun _ => ?_)
    refine Wc_sub (l := [(8, .int .i64 ((i : Nat) : Int)), (3, .pointer (some ⟨N, 0, none⟩)), (1, .string f), (2, .string t)]) (SubL.cons rfl (SubL.cons rfl (SubL.cons rfl (SubL.cons rfl SubL.nil)))) ?_
    refine Wc_rs ?_
    refine Wl_move7 rfl fun _ => ?_
    refine Wl_field rfl rfl ?_
    refine Wl_loadL h8 rfl rfl ?_
    refine Wl_move rfl rfl ?_
    refine Wl_idxS hk hsa rfl rfl rfl ?_
    refine Wl_field rfl rfl ?_
    refine Wl_loadS s0 rfl rfl ?_
    refine Wl_lenS rfl rfl ?_
    refine Wl_add rfl rfl rfl fun _ => ?_
    refine Wl_assign7 rfl rfl ?_
    refine Wl_end ?_
    refine Wc_seq (Wc_rs ?_)
    refine Wl_move7 rfl fun _ => ?_
    refine Wl_gtr rfl rfl ?_
    refine Wl_end (Wc_guard_m hr rfl fun _ => ?_)
    refine Wc_sub (l := [(8, .int .i64 ((i : Nat) : Int)), (3, .pointer (some ⟨N, 0, none⟩)), (1, .string f), (2, .string t)]) (SubL.cons rfl (SubL.cons rfl (SubL.cons rfl (SubL.cons rfl SubL.nil)))) ?_
    refine Wc_seq (Wc_rs ?_)
    refine Wl_field rfl rfl ?_
    refine Wl_loadL h8 rfl rfl ?_
    refine Wl_move rfl rfl ?_
    refine Wl_idxS hk hsa rfl rfl rfl ?_
    refine Wl_field rfl rfl ?_
    refine Wl_field rfl rfl ?_
    refine Wl_loadS s1 rfl rfl ?_
    refine Wl_lenS rfl rfl ?_
    refine Wl_gtr rfl rfl ?_
    refine Wl_end (Wc_guard_m hr rfl fun _ => ?_)
    refine Wc_sub (l := [(8, .int .i64 ((i : Nat) : Int)), (3, .pointer (some ⟨N, 0, none⟩)), (1, .string f), (2, .string t)]) (SubL.cons rfl (SubL.cons rfl (SubL.cons rfl (SubL.cons rfl SubL.nil)))) ?_
    refine Wc_rs ?_
    refine Wl_move7 rfl fun _ => ?_
    refine Wl_field rfl rfl ?_
    refine Wl_loadL h8 rfl rfl ?_
    refine Wl_move rfl rfl ?_
    refine Wl_idxS hk hsa rfl rfl rfl ?_
    refine Wl_field rfl rfl ?_
    refine Wl_field rfl rfl ?_
    refine Wl_loadS s1 rfl rfl ?_
    refine Wl_lenS rfl rfl ?_
    refine Wl_add rfl rfl rfl fun _ => ?_
    refine Wl_assign7 rfl rfl ?_
    refine Wl_end ?_
    refine Wc_seq (Wc_rs ?_)
    refine Wl_move7 rfl fun _ => ?_
    refine Wl_gtr rfl rfl ?_
    refine Wl_end (Wc_guard_m hr rfl fun _ => ?_)
    refine Wc_sub (l := [(8, .int .i64 ((i : Nat) : Int)), (3, .pointer (some ⟨N, 0, none⟩)), (1, .string f), (2, .string t)]) (SubL.cons rfl (SubL.cons rfl (SubL.cons rfl (SubL.cons rfl SubL.nil)))) ?_
    refine Wc_seq (Wc_rs ?_)
    refine Wl_field rfl rfl ?_
    refine Wl_loadL h8 rfl rfl ?_
    refine Wl_move rfl rfl ?_
    refine Wl_idxS hk hsa rfl rfl rfl ?_
    refine Wl_field rfl rfl ?_
    refine Wl_field rfl rfl ?_
    refine Wl_loadS s2 rfl rfl ?_
    refine Wl_lenS rfl rfl ?_
    refine Wl_gtr rfl rfl ?_
    refine Wl_end (Wc_guard_m hr rfl fun _ => ?_)
    refine Wc_sub (l := [(8, .int .i64 ((i : Nat) : Int)), (3, .pointer (some ⟨N, 0, none⟩)), (1, .string f), (2, .string t)]) (SubL.cons rfl (SubL.cons rfl (SubL.cons rfl (SubL.cons rfl SubL.nil)))) ?_
    refine Wc_rs ?_
    refine Wl_move7 rfl fun _ => ?_
    refine Wl_field rfl rfl ?_
    refine Wl_loadL h8 rfl rfl ?_
    refine Wl_move rfl rfl ?_
    refine Wl_idxS hk hsa rfl rfl rfl ?_
    refine Wl_field rfl rfl ?_
    refine Wl_field rfl rfl ?_
    refine Wl_loadS s2 rfl rfl ?_
    refine Wl_lenS rfl rfl ?_
    refine Wl_add rfl rfl rfl fun _ => ?_
    refine Wl_assign7 rfl rfl ?_
    refine Wl_end ?_
    refine Wc_rs ?_
    refine Wl_move7 rfl fun _ => ?_
    refine Wl_gtr rfl rfl ?_
    refine Wl_end (Wc_guard hr rfl fun _ a ha => hend trivial a (ha.sub (SubL.cons rfl (SubL.cons rfl (SubL.cons rfl (SubL.cons rfl SubL.nil))))))

theorem by_adj {ad : Nat → ByteArray} (hA : ∀ s, s < 2 → W.cell? ⟨N, 9 + s, none⟩ = some (.string (ad s)))
    (hL : SubL ((9, .int .i64 ((0 : Nat) : Int)) :: [(3, .pointer (some ⟨N, 0, none⟩)), (1, .string f), (2, .string t)]) L0) (hr : HR Q W) (hq : ∀ a, Frm [(3, .pointer (some ⟨N, 0, none⟩)), (1, .string f), (2, .string t)] a → Q .normal a W) :
    Wc Q W L0 ((findB 2 (Try.f4.body.getD .skip)).getD .skip) := by
  conv => arg 4; whnf
  refine Wc_for (fun _ => True) 2 9 [(3, .pointer (some ⟨N, 0, none⟩)), (1, .string f), (2, .string t)] hL trivial (by decide) rfl rfl rfl rfl rfl ?_ ?_ hr (fun hI a ha => hq a (ha.sub (SubL.cons rfl (SubL.cons rfl (SubL.cons rfl SubL.nil)))))
  · intro i ops Q1 hk hend
    refine Wl_move rfl rfl ?_
    refine Wl_lss2 rfl rfl ?_
    exact Wl_nil (hend _ (SubL.cons rfl (SubL.cons rfl (SubL.cons rfl (SubL.cons rfl SubL.nil)))) rfl)
  · intro i Q1 hk hI hr hend
    refine Wc_seq (Wc_rs ?_)
    refine Wl_move rfl rfl ?_
    refine Wl_field rfl rfl ?_
    refine Wl_idxA hk rfl rfl rfl ?_
    refine Wl_loadS (hA i hk) rfl rfl ?_
    refine Wl_lenS rfl rfl ?_
    refine Wl_gtr rfl rfl ?_
    refine Wl_end (Wc_guard_m hr rfl fun _ => ?_)
    refine Wc_sub (l := [(9, .int .i64 ((i : Nat) : Int)), (3, .pointer (some ⟨N, 0, none⟩)), (1, .string f), (2, .string t)]) (SubL.cons rfl (SubL.cons rfl (SubL.cons rfl (SubL.cons rfl SubL.nil)))) ?_
    refine Wc_rs ?_
    refine Wl_move7 rfl fun _ => ?_
    refine Wl_move rfl rfl ?_
    refine Wl_field rfl rfl ?_
    refine Wl_idxA hk rfl rfl rfl ?_
    refine Wl_loadS (hA i hk) rfl rfl ?_
    refine Wl_lenS rfl rfl ?_
    refine Wl_add rfl rfl rfl fun _ => ?_
    refine Wl_assign7 rfl rfl ?_
    refine Wl_end ?_
    refine Wc_rs ?_
    refine Wl_move7 rfl fun _ => ?_
    refine Wl_gtr rfl rfl ?_
    refine Wl_end (Wc_guard hr rfl fun _ a ha => hend trivial a (ha.sub (SubL.cons rfl (SubL.cons rfl (SubL.cons rfl (SubL.cons rfl SubL.nil))))))
end
end Go.Proofs.Qxb6623423a.Seat
