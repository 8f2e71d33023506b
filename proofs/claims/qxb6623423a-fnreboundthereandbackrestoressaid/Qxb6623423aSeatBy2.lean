/- Seat b6623423a: zzBytes: the loops over a table (laid by a small generator over the function's list of operations). -/
import Derived.Test.Qxb6623423aSeatBy1
namespace Go.Proofs.Qxb6623423a.Seat
open Go.RowKit

section
variable {W : World} {N : Nat} {f t : ByteArray} {Q : Exit → Act → World → Prop} {L0 : List (Nat × Value)}
theorem by_row {s i tn tc tb tq rc : Nat} {ta ra : Option Addr} {R : RowE} (hs : s < 2) (hT : W.cell? ⟨N, 11 + s, none⟩ = some (.slice ta tn tc)) (hta : ta = some ⟨tb, tq, none⟩) (hi : i < tn) (hR : W.cell? ⟨tb, tq + i, none⟩ = some (.slice ra R.n rc)) (hrow : RowIn W ra R) (hrn : R.n ≤ 1048576)
    (hL : SubL ((12, .int .i64 ((0 : Nat) : Int)) :: [(11, .int .i64 ((i : Nat) : Int)), (10, .int .i64 ((s : Nat) : Int)), (3, .pointer (some ⟨N, 0, none⟩)), (1, .string f), (2, .string t)]) L0) (hr : HR Q W) (hq : (∀ j, j < R.n → EntOk (R.e j)) → ∀ a, Frm [(11, .int .i64 ((i : Nat) : Int)), (10, .int .i64 ((s : Nat) : Int)), (3, .pointer (some ⟨N, 0, none⟩)), (1, .string f), (2, .string t)] a → Q .normal a W) :
    Wc Q W L0 ((findB 8 (Try.f4.body.getD .skip)).getD .skip) := by
  conv => arg 4; whnf
  refine Wc_for (fun k => ∀ j, j < k → EntOk (R.e j)) R.n 12 [(11, .int .i64 ((i : Nat) : Int)), (10, .int .i64 ((s : Nat) : Int)), (3, .pointer (some ⟨N, 0, none⟩)), (1, .string f), (2, .string t)] hL all_zero hrn rfl rfl rfl rfl rfl ?_ ?_ hr (fun hI a ha => hq hI a (ha.sub (SubL.cons rfl (SubL.cons rfl (SubL.cons rfl (SubL.cons rfl (SubL.cons rfl SubL.nil)))))))
  · intro d ops Q1 hk hend
    refine Wl_move rfl rfl ?_
    refine Wl_move rfl rfl ?_
    refine Wl_field rfl rfl ?_
    refine Wl_idxA hs rfl rfl rfl ?_
    refine Wl_loadL hT rfl rfl ?_
    refine Wl_move rfl rfl ?_
    refine Wl_idx1 hi hta rfl rfl rfl ?_
    refine Wl_loadL hR rfl rfl ?_
    refine Wl_lenL rfl rfl ?_
    refine Wl_lss rfl rfl rfl ?_
    exact Wl_nil (hend _ (SubL.cons rfl (SubL.cons rfl (SubL.cons rfl (SubL.cons rfl (SubL.cons rfl (SubL.cons rfl SubL.nil)))))) rfl)
  · intro d Q1 hk hI hr hend
    rcases hrow.2 with h0 | ⟨rb, rq, hra, _, hE⟩
    · omega
    obtain ⟨ca, sa, cc, sc, ⟨e0, e1, e2, e3, e4, e5, e6⟩, _, _, hch, hsp⟩ := hE d hk
    refine Wc_seq (Wc_rs ?_)
    refine Wl_move rfl rfl ?_
    refine Wl_field rfl rfl ?_
    refine Wl_idxA hs rfl rfl rfl ?_
    refine Wl_loadL hT rfl rfl ?_
    refine Wl_move rfl rfl ?_
    refine Wl_idx1 hi hta rfl rfl rfl ?_
    refine Wl_loadL hR rfl rfl ?_
    refine Wl_move rfl rfl ?_
    refine Wl_idxS hk hra rfl rfl rfl ?_
    refine Wl_field rfl rfl ?_
    refine Wl_loadS e0 rfl rfl ?_
    refine Wl_lenS rfl rfl ?_
    refine Wl_gtr rfl rfl ?_
    refine Wl_end (Wc_guard_m hr rfl fun _ => ?_)
    refine Wc_sub (l := [(12, .int .i64 ((d : Nat) : Int)), (11, .int .i64 ((i : Nat) : Int)), (10, .int .i64 ((s : Nat) : Int)), (3, .pointer (some ⟨N, 0, none⟩)), (1, .string f), (2, .string t)]) (SubL.cons rfl (SubL.cons rfl (SubL.cons rfl (SubL.cons rfl (SubL.cons rfl (SubL.cons rfl SubL.nil)))))) ?_
    refine Wc_rs ?_
    refine Wl_move7 rfl fun _ => ?_
    refine Wl_move rfl rfl ?_
    refine Wl_field rfl rfl ?_
    refine Wl_idxA hs rfl rfl rfl ?_
    refine Wl_loadL hT rfl rfl ?_
    refine Wl_move rfl rfl ?_
    refine Wl_idx1 hi hta rfl rfl rfl ?_
    refine Wl_loadL hR rfl rfl ?_
    refine Wl_move rfl rfl ?_
    refine Wl_idxS hk hra rfl rfl rfl ?_
    refine Wl_field rfl rfl ?_
    refine Wl_loadS e0 rfl rfl ?_
    refine Wl_lenS rfl rfl ?_
    refine Wl_add rfl rfl rfl fun _ => ?_
    refine Wl_assign7 rfl rfl ?_
    refine Wl_end ?_
    refine Wc_seq (Wc_rs ?_)
    refine Wl_move7 rfl fun _ => ?_
    refine Wl_gtr rfl rfl ?_
    refine Wl_end (Wc_guard_m hr rfl fun _ => ?_)
    refine Wc_sub (l := [(12, .int .i64 ((d : Nat) : Int)), (11, .int .i64 ((i : Nat) : Int)), (10, .int .i64 ((s : Nat) : Int)), (3, .pointer (some ⟨N, 0, none⟩)), (1, .string f), (2, .string t)]) (SubL.cons rfl (SubL.cons rfl (SubL.cons rfl (SubL.cons rfl (SubL.cons rfl (SubL.cons rfl SubL.nil)))))) ?_
    refine Wc_seq (Wc_rs ?_)
    refine Wl_move rfl rfl ?_
    refine Wl_field rfl rfl ?_
    refine Wl_idxA hs rfl rfl rfl ?_
    refine Wl_loadL hT rfl rfl ?_
    refine Wl_move rfl rfl ?_
    refine Wl_idx1 hi hta rfl rfl rfl ?_
    refine Wl_loadL hR rfl rfl ?_
    refine Wl_move rfl rfl ?_
    refine Wl_idxS hk hra rfl rfl rfl ?_
    refine Wl_field rfl rfl ?_
    refine Wl_field rfl rfl ?_
    refine Wl_loadS e1 rfl rfl ?_
    refine Wl_lenS rfl rfl ?_
    refine Wl_gtr rfl rfl ?_
    refine Wl_end (Wc_guard_m hr rfl fun _ => ?_)
    refine Wc_sub (l := [(12, .int .i64 ((d : Nat) : Int)), (11, .int .i64 ((i : Nat) : Int)), (10, .int .i64 ((s : Nat) : Int)), (3, .pointer (some ⟨N, 0, none⟩)), (1, .string f), (2, .string t)]) (SubL.cons rfl (SubL.cons rfl (SubL.cons rfl (SubL.cons rfl (SubL.cons rfl (SubL.cons rfl SubL.nil)))))) ?_
    refine Wc_rs ?_
    refine Wl_move7 rfl fun _ => ?_
    refine Wl_move rfl rfl ?_
    refine Wl_field rfl rfl ?_
    refine Wl_idxA hs rfl rfl rfl ?_
    refine Wl_loadL hT rfl rfl ?_
    refine Wl_move rfl rfl ?_
    refine Wl_idx1 hi hta rfl rfl rfl ?_
    refine Wl_loadL hR rfl rfl ?_
    refine Wl_move rfl rfl ?_
    refine Wl_idxS hk hra rfl rfl rfl ?_
    refine Wl_field rfl rfl ?_
    refine Wl_field rfl rfl ?_
    refine Wl_loadS e1 rfl rfl ?_
    refine Wl_lenS rfl rfl ?_
    refine Wl_add rfl rfl rfl fun _ => ?_
    refine Wl_assign7 rfl rfl ?_
    refine Wl_end ?_
    refine Wc_seq (Wc_rs ?_)
    refine Wl_move7 rfl fun _ => ?_
    refine Wl_gtr rfl rfl ?_
    refine Wl_end (Wc_guard_m hr rfl fun _ => ?_)
    refine Wc_sub (l := [(12, .int .i64 ((d : Nat) : Int)), (11, .int .i64 ((i : Nat) : Int)), (10, .int .i64 ((s : Nat) : Int)), (3, .pointer (some ⟨N, 0, none⟩)), (1, .string f), (2, .string t)]) (SubL.cons rfl (SubL.cons rfl (SubL.cons rfl (SubL.cons rfl (SubL.cons rfl (SubL.cons rfl SubL.nil)))))) ?_
    refine Wc_seq (Wc_rs ?_)
    refine Wl_move rfl rfl ?_
    refine Wl_field rfl rfl ?_
    refine Wl_idxA hs rfl rfl rfl ?_
    refine Wl_loadL hT rfl rfl ?_
    refine Wl_move rfl rfl ?_
    refine Wl_idx1 hi hta rfl rfl rfl ?_
    refine Wl_loadL hR rfl rfl ?_
    refine Wl_move rfl rfl ?_
    refine Wl_idxS hk hra rfl rfl rfl ?_
    refine Wl_field rfl rfl ?_
    refine Wl_field rfl rfl ?_
    refine Wl_loadS e2 rfl rfl ?_
    refine Wl_lenS rfl rfl ?_
    refine Wl_gtr rfl rfl ?_
    refine Wl_end (Wc_guard_m hr rfl fun _ => ?_)
    refine Wc_sub (l := [(12, .int .i64 ((d : Nat) : Int)), (11, .int .i64 ((i : Nat) : Int)), (10, .int .i64 ((s : Nat) : Int)), (3, .pointer (some ⟨N, 0, none⟩)), (1, .string f), (2, .string t)]) (SubL.cons rfl (SubL.cons rfl (SubL.cons rfl (SubL.cons rfl (SubL.cons rfl (SubL.cons rfl SubL.nil)))))) ?_
    refine Wc_rs ?_
    refine Wl_move7 rfl fun _ => ?_
    refine Wl_move rfl rfl ?_
    refine Wl_field rfl rfl ?_
    refine Wl_idxA hs rfl rfl rfl ?_
    refine Wl_loadL hT rfl rfl ?_
    refine Wl_move rfl rfl ?_
    refine Wl_idx1 hi hta rfl rfl rfl ?_
    refine Wl_loadL hR rfl rfl ?_
    refine Wl_move rfl rfl ?_
    refine Wl_idxS hk hra rfl rfl rfl ?_
    refine Wl_field rfl rfl ?_
    refine Wl_field rfl rfl ?_
    refine Wl_loadS e2 rfl rfl ?_
    refine Wl_lenS rfl rfl ?_
    refine Wl_add rfl rfl rfl fun _ => ?_
    refine Wl_assign7 rfl rfl ?_
    refine Wl_end ?_
    refine Wc_seq (Wc_rs ?_)
    refine Wl_move7 rfl fun _ => ?_
    refine Wl_gtr rfl rfl ?_
    refine Wl_end (Wc_guard_m hr rfl fun _ => ?_)
    refine Wc_sub (l := [(12, .int .i64 ((d : Nat) : Int)), (11, .int .i64 ((i : Nat) : Int)), (10, .int .i64 ((s : Nat) : Int)), (3, .pointer (some ⟨N, 0, none⟩)), (1, .string f), (2, .string t)]) (SubL.cons rfl (SubL.cons rfl (SubL.cons rfl (SubL.cons rfl (SubL.cons rfl (SubL.cons rfl SubL.nil)))))) ?_
    refine Wc_seq (Wc_rs ?_)
    refine Wl_move rfl rfl ?_
    refine Wl_field rfl rfl ?_
    refine Wl_idxA hs rfl rfl rfl ?_
    refine Wl_loadL hT rfl rfl ?_
    refine Wl_move rfl rfl ?_
    refine Wl_idx1 hi hta rfl rfl rfl ?_
    refine Wl_loadL hR rfl rfl ?_
    refine Wl_move rfl rfl ?_
    refine Wl_idxS hk hra rfl rfl rfl ?_
    refine Wl_field rfl rfl ?_
    refine Wl_field rfl rfl ?_
    refine Wl_loadS e3 rfl rfl ?_
    refine Wl_lenS rfl rfl ?_
    refine Wl_gtr rfl rfl ?_
    refine Wl_end (Wc_guard_m hr rfl fun _ => ?_)
    refine Wc_sub (l := [(12, .int .i64 ((d : Nat) : Int)), (11, .int .i64 ((i : Nat) : Int)), (10, .int .i64 ((s : Nat) : Int)), (3, .pointer (some ⟨N, 0, none⟩)), (1, .string f), (2, .string t)]) (SubL.cons rfl (SubL.cons rfl (SubL.cons rfl (SubL.cons rfl (SubL.cons rfl (SubL.cons rfl SubL.nil)))))) ?_
    refine Wc_rs ?_
    refine Wl_move7 rfl fun _ => ?_
    refine Wl_move rfl rfl ?_
    refine Wl_field rfl rfl ?_
    refine Wl_idxA hs rfl rfl rfl ?_
    refine Wl_loadL hT rfl rfl ?_
    refine Wl_move rfl rfl ?_
    refine Wl_idx1 hi hta rfl rfl rfl ?_
    refine Wl_loadL hR rfl rfl ?_
    refine Wl_move rfl rfl ?_
    refine Wl_idxS hk hra rfl rfl rfl ?_
    refine Wl_field rfl rfl ?_
    refine Wl_field rfl rfl ?_
    refine Wl_loadS e3 rfl rfl ?_
    refine Wl_lenS rfl rfl ?_
    refine Wl_add rfl rfl rfl fun _ => ?_
    refine Wl_assign7 rfl rfl ?_
    refine Wl_end ?_
    refine Wc_seq (Wc_rs ?_)
    refine Wl_move7 rfl fun _ => ?_
    refine Wl_gtr rfl rfl ?_
    refine Wl_end (Wc_guard_m hr rfl fun _ => ?_)
    refine Wc_sub (l := [(12, .int .i64 ((d : Nat) : Int)), (11, .int .i64 ((i : Nat) : Int)), (10, .int .i64 ((s : Nat) : Int)), (3, .pointer (some ⟨N, 0, none⟩)), (1, .string f), (2, .string t)]) (SubL.cons rfl (SubL.cons rfl (SubL.cons rfl (SubL.cons rfl (SubL.cons rfl (SubL.cons rfl SubL.nil)))))) ?_
    refine Wc_seq (Wc_rs ?_)
    refine Wl_move rfl rfl ?_
    refine Wl_field rfl rfl ?_
    refine Wl_idxA hs rfl rfl rfl ?_
    refine Wl_loadL hT rfl rfl ?_
    refine Wl_move rfl rfl ?_
    refine Wl_idx1 hi hta rfl rfl rfl ?_
    refine Wl_loadL hR rfl rfl ?_
    refine Wl_move rfl rfl ?_
    refine Wl_idxS hk hra rfl rfl rfl ?_
    refine Wl_field rfl rfl ?_
    refine Wl_field rfl rfl ?_
    refine Wl_loadS e4 rfl rfl ?_
    refine Wl_lenS rfl rfl ?_
    refine Wl_gtr rfl rfl ?_
    refine Wl_end (Wc_guard_m hr rfl fun _ => ?_)
    refine Wc_sub (l := [(12, .int .i64 ((d : Nat) : Int)), (11, .int .i64 ((i : Nat) : Int)), (10, .int .i64 ((s : Nat) : Int)), (3, .pointer (some ⟨N, 0, none⟩)), (1, .string f), (2, .string t)]) (SubL.cons rfl (SubL.cons rfl (SubL.cons rfl (SubL.cons rfl (SubL.cons rfl (SubL.cons rfl SubL.nil)))))) ?_
    refine Wc_rs ?_
    refine Wl_move7 rfl fun _ => ?_
    refine Wl_move rfl rfl ?_
    refine Wl_field rfl rfl ?_
    refine Wl_idxA hs rfl rfl rfl ?_
    refine Wl_loadL hT rfl rfl ?_
    refine Wl_move rfl rfl ?_
    refine Wl_idx1 hi hta rfl rfl rfl ?_
    refine Wl_loadL hR rfl rfl ?_
    refine Wl_move rfl rfl ?_
    refine Wl_idxS hk hra rfl rfl rfl ?_
    refine Wl_field rfl rfl ?_
    refine Wl_field rfl rfl ?_
    refine Wl_loadS e4 rfl rfl ?_
    refine Wl_lenS rfl rfl ?_
    refine Wl_add rfl rfl rfl fun _ => ?_
    refine Wl_assign7 rfl rfl ?_
    refine Wl_end ?_
    refine Wc_seq (Wc_rs ?_)
    refine Wl_move7 rfl fun _ => ?_
    refine Wl_gtr rfl rfl ?_
    refine Wl_end (Wc_guard_m hr rfl fun _ => ?_)
    refine Wc_sub (l := [(12, .int .i64 ((d : Nat) : Int)), (11, .int .i64 ((i : Nat) : Int)), (10, .int .i64 ((s : Nat) : Int)), (3, .pointer (some ⟨N, 0, none⟩)), (1, .string f), (2, .string t)]) (SubL.cons rfl (SubL.cons rfl (SubL.cons rfl (SubL.cons rfl (SubL.cons rfl (SubL.cons rfl SubL.nil)))))) ?_
    refine Wc_seq (Wc_rs ?_)
    refine Wl_move rfl rfl ?_
    refine Wl_field rfl rfl ?_
    refine Wl_idxA hs rfl rfl rfl ?_
    refine Wl_loadL hT rfl rfl ?_
    refine Wl_move rfl rfl ?_
    refine Wl_idx1 hi hta rfl rfl rfl ?_
    refine Wl_loadL hR rfl rfl ?_
    refine Wl_move rfl rfl ?_
    refine Wl_idxS hk hra rfl rfl rfl ?_
    refine Wl_field rfl rfl ?_
    refine Wl_loadL e5 rfl rfl ?_
    refine Wl_lenL rfl rfl ?_
    refine Wl_gtr rfl rfl ?_
    refine Wl_end (Wc_guard_m hr rfl fun g1 => ?_)
    refine Wc_sub (l := [(12, .int .i64 ((d : Nat) : Int)), (11, .int .i64 ((i : Nat) : Int)), (10, .int .i64 ((s : Nat) : Int)), (3, .pointer (some ⟨N, 0, none⟩)), (1, .string f), (2, .string t)]) (SubL.cons rfl (SubL.cons rfl (SubL.cons rfl (SubL.cons rfl (SubL.cons rfl (SubL.cons rfl SubL.nil)))))) ?_
    refine Wc_rs ?_
    refine Wl_move7 rfl fun _ => ?_
    refine Wl_move rfl rfl ?_
    refine Wl_field rfl rfl ?_
    refine Wl_idxA hs rfl rfl rfl ?_
    refine Wl_loadL hT rfl rfl ?_
    refine Wl_move rfl rfl ?_
    refine Wl_idx1 hi hta rfl rfl rfl ?_
    refine Wl_loadL hR rfl rfl ?_
    refine Wl_move rfl rfl ?_
    refine Wl_idxS hk hra rfl rfl rfl ?_
    refine Wl_field rfl rfl ?_
    refine Wl_loadL e5 rfl rfl ?_
    refine Wl_lenL rfl rfl ?_
    refine Wl_add rfl rfl rfl fun _ => ?_
    refine Wl_assign7 rfl rfl ?_
    refine Wl_end ?_
    refine Wc_seq (Wc_rs ?_)
    refine Wl_move7 rfl fun _ => ?_
    refine Wl_gtr rfl rfl ?_
    refine Wl_end (Wc_guard_m hr rfl fun _ => ?_)
    refine Wc_sub (l := [(12, .int .i64 ((d : Nat) : Int)), (11, .int .i64 ((i : Nat) : Int)), (10, .int .i64 ((s : Nat) : Int)), (3, .pointer (some ⟨N, 0, none⟩)), (1, .string f), (2, .string t)]) (SubL.cons rfl (SubL.cons rfl (SubL.cons rfl (SubL.cons rfl (SubL.cons rfl (SubL.cons rfl SubL.nil)))))) ?_
    refine Wc_seq (Wc_rs ?_)
    refine Wl_assignc rfl ?_
    refine Wl_end ?_
    refine by_kids hs hT hta hi hR hra hk e5 hch (by omega) (SubL.cons rfl (SubL.cons rfl (SubL.cons rfl (SubL.cons rfl (SubL.cons rfl (SubL.cons rfl (SubL.cons rfl SubL.nil))))))) hr.then (Wc.nrm ?_)
    refine Wc_seq (Wc_rs ?_)
    refine Wl_move rfl rfl ?_
    refine Wl_field rfl rfl ?_
    refine Wl_idxA hs rfl rfl rfl ?_
    refine Wl_loadL hT rfl rfl ?_
    refine Wl_move rfl rfl ?_
    refine Wl_idx1 hi hta rfl rfl rfl ?_
    refine Wl_loadL hR rfl rfl ?_
    refine Wl_move rfl rfl ?_
    refine Wl_idxS hk hra rfl rfl rfl ?_
    refine Wl_field rfl rfl ?_
    refine Wl_loadL e6 rfl rfl ?_
    refine Wl_lenL rfl rfl ?_
    refine Wl_gtr rfl rfl ?_
    refine Wl_end (Wc_guard_m hr rfl fun g2 => ?_)
    refine Wc_sub (l := [(12, .int .i64 ((d : Nat) : Int)), (11, .int .i64 ((i : Nat) : Int)), (10, .int .i64 ((s : Nat) : Int)), (3, .pointer (some ⟨N, 0, none⟩)), (1, .string f), (2, .string t)]) (SubL.cons rfl (SubL.cons rfl (SubL.cons rfl (SubL.cons rfl (SubL.cons rfl (SubL.cons rfl SubL.nil)))))) ?_
    refine Wc_rs ?_
    refine Wl_move7 rfl fun _ => ?_
    refine Wl_move rfl rfl ?_
    refine Wl_field rfl rfl ?_
    refine Wl_idxA hs rfl rfl rfl ?_
    refine Wl_loadL hT rfl rfl ?_
    refine Wl_move rfl rfl ?_
    refine Wl_idx1 hi hta rfl rfl rfl ?_
    refine Wl_loadL hR rfl rfl ?_
    refine Wl_move rfl rfl ?_
    refine Wl_idxS hk hra rfl rfl rfl ?_
    refine Wl_field rfl rfl ?_
    refine Wl_loadL e6 rfl rfl ?_
    refine Wl_lenL rfl rfl ?_
    refine Wl_add rfl rfl rfl fun _ => ?_
    refine Wl_assign7 rfl rfl ?_
    refine Wl_end ?_
    refine Wc_seq (Wc_rs ?_)
    refine Wl_move7 rfl fun _ => ?_
    refine Wl_gtr rfl rfl ?_
    refine Wl_end (Wc_guard_m hr rfl fun _ => ?_)
    refine Wc_sub (l := [(12, .int .i64 ((d : Nat) : Int)), (11, .int .i64 ((i : Nat) : Int)), (10, .int .i64 ((s : Nat) : Int)), (3, .pointer (some ⟨N, 0, none⟩)), (1, .string f), (2, .string t)]) (SubL.cons rfl (SubL.cons rfl (SubL.cons rfl (SubL.cons rfl (SubL.cons rfl (SubL.cons rfl SubL.nil)))))) ?_
    refine Wc_rs ?_
    refine Wl_assignc rfl ?_
    refine Wl_end ?_
    exact by_spans hs hT hta hi hR hra hk e6 hsp (by omega) (SubL.cons rfl (SubL.cons rfl (SubL.cons rfl (SubL.cons rfl (SubL.cons rfl (SubL.cons rfl (SubL.cons rfl SubL.nil))))))) hr ((hend (all_succ hI ⟨by omega, by omega⟩)))

theorem by_tab {s tc : Nat} {ta : Option Addr} {T : TabE} (hs : s < 2) (hT : W.cell? ⟨N, 11 + s, none⟩ = some (.slice ta T.n tc)) (htab : TabIn W ta T) (htn : T.n ≤ 1048576)
    (hL : SubL ((11, .int .i64 ((0 : Nat) : Int)) :: [(10, .int .i64 ((s : Nat) : Int)), (3, .pointer (some ⟨N, 0, none⟩)), (1, .string f), (2, .string t)]) L0) (hr : HR Q W) (hq : (∀ j, j < T.n → RowOk (T.r j)) → ∀ a, Frm [(10, .int .i64 ((s : Nat) : Int)), (3, .pointer (some ⟨N, 0, none⟩)), (1, .string f), (2, .string t)] a → Q .normal a W) :
    Wc Q W L0 ((findB 6 (Try.f4.body.getD .skip)).getD .skip) := by
  conv => arg 4; whnf
  refine Wc_for (fun k => ∀ j, j < k → RowOk (T.r j)) T.n 11 [(10, .int .i64 ((s : Nat) : Int)), (3, .pointer (some ⟨N, 0, none⟩)), (1, .string f), (2, .string t)] hL all_zero htn rfl rfl rfl rfl rfl ?_ ?_ hr (fun hI a ha => hq hI a (ha.sub (SubL.cons rfl (SubL.cons rfl (SubL.cons rfl (SubL.cons rfl SubL.nil))))))
  · intro i ops Q1 hk hend
    refine Wl_move rfl rfl ?_
    refine Wl_move rfl rfl ?_
    refine Wl_field rfl rfl ?_
    refine Wl_idxA hs rfl rfl rfl ?_
    refine Wl_loadL hT rfl rfl ?_
    refine Wl_lenL rfl rfl ?_
    refine Wl_lss rfl rfl rfl ?_
    exact Wl_nil (hend _ (SubL.cons rfl (SubL.cons rfl (SubL.cons rfl (SubL.cons rfl (SubL.cons rfl SubL.nil))))) rfl)
  · intro i Q1 hk hI hr hend
    rcases htab.2 with h0 | ⟨tb, tq, hta, _, hX⟩
    · omega
    obtain ⟨ra, rc, hR, hrow⟩ := hX i hk
    refine Wc_seq (Wc_rs ?_)
    refine Wl_move rfl rfl ?_
    refine Wl_field rfl rfl ?_
    refine Wl_idxA hs rfl rfl rfl ?_
    refine Wl_loadL hT rfl rfl ?_
    refine Wl_move rfl rfl ?_
    refine Wl_idx1 hk hta rfl rfl rfl ?_
    refine Wl_loadL hR rfl rfl ?_
    refine Wl_lenL rfl rfl ?_
    refine Wl_gtr rfl rfl ?_
    refine Wl_end (Wc_guard_m hr rfl fun g1 => ?_)
    refine Wc_sub (l := [(11, .int .i64 ((i : Nat) : Int)), (10, .int .i64 ((s : Nat) : Int)), (3, .pointer (some ⟨N, 0, none⟩)), (1, .string f), (2, .string t)]) (SubL.cons rfl (SubL.cons rfl (SubL.cons rfl (SubL.cons rfl (SubL.cons rfl SubL.nil))))) ?_
    refine Wc_rs ?_
    refine Wl_move7 rfl fun _ => ?_
    refine Wl_move rfl rfl ?_
    refine Wl_field rfl rfl ?_
    refine Wl_idxA hs rfl rfl rfl ?_
    refine Wl_loadL hT rfl rfl ?_
    refine Wl_move rfl rfl ?_
    refine Wl_idx1 hk hta rfl rfl rfl ?_
    refine Wl_loadL hR rfl rfl ?_
    refine Wl_lenL rfl rfl ?_
    refine Wl_add rfl rfl rfl fun _ => ?_
    refine Wl_assign7 rfl rfl ?_
    refine Wl_end ?_
    refine Wc_seq (Wc_rs ?_)
    refine Wl_move7 rfl fun _ => ?_
    refine Wl_gtr rfl rfl ?_
    refine Wl_end (Wc_guard_m hr rfl fun _ => ?_)
    refine Wc_sub (l := [(11, .int .i64 ((i : Nat) : Int)), (10, .int .i64 ((s : Nat) : Int)), (3, .pointer (some ⟨N, 0, none⟩)), (1, .string f), (2, .string t)]) (SubL.cons rfl (SubL.cons rfl (SubL.cons rfl (SubL.cons rfl (SubL.cons rfl SubL.nil))))) ?_
    refine Wc_rs ?_
    refine Wl_assignc rfl ?_
    refine Wl_end ?_
    exact by_row hs hT hta hk hR hrow (by omega) (SubL.cons rfl (SubL.cons rfl (SubL.cons rfl (SubL.cons rfl (SubL.cons rfl (SubL.cons rfl SubL.nil)))))) hr (fun hrows => (hend (all_succ hI ⟨by omega, hrows⟩)))

theorem by_tabs {A : Adr} {D : Plc} (hTs : ∀ s, s < 2 → W.cell? ⟨N, 11 + s, none⟩ = some (.slice (A.ta s) (D.t s).n (A.tc s))) (hTab : ∀ s, s < 2 → TabIn W (A.ta s) (D.t s))
    (hL : SubL ((10, .int .i64 ((0 : Nat) : Int)) :: [(3, .pointer (some ⟨N, 0, none⟩)), (1, .string f), (2, .string t)]) L0) (hr : HR Q W) (hq : (∀ j, j < 2 → TabOk (D.t j)) → ∀ a, Frm [(3, .pointer (some ⟨N, 0, none⟩)), (1, .string f), (2, .string t)] a → Q .normal a W) :
    Wc Q W L0 ((findB 4 (Try.f4.body.getD .skip)).getD .skip) := by
  conv => arg 4; whnf
  refine Wc_for (fun k => ∀ j, j < k → TabOk (D.t j)) 2 10 [(3, .pointer (some ⟨N, 0, none⟩)), (1, .string f), (2, .string t)] hL all_zero (by decide) rfl rfl rfl rfl rfl ?_ ?_ hr (fun hI a ha => hq hI a (ha.sub (SubL.cons rfl (SubL.cons rfl (SubL.cons rfl SubL.nil)))))
  · intro s ops Q1 hk hend
    refine Wl_move rfl rfl ?_
    refine Wl_lss2 rfl rfl ?_
    exact Wl_nil (hend _ (SubL.cons rfl (SubL.cons rfl (SubL.cons rfl (SubL.cons rfl SubL.nil)))) rfl)
  · intro s Q1 hk hI hr hend
    refine Wc_seq (Wc_rs ?_)
    refine Wl_move rfl rfl ?_
    refine Wl_field rfl rfl ?_
    refine Wl_idxA hk rfl rfl rfl ?_
    refine Wl_loadL (hTs s hk) rfl rfl ?_
    refine Wl_lenL rfl rfl ?_
    refine Wl_gtr rfl rfl ?_
    refine Wl_end (Wc_guard_m hr rfl fun g1 => ?_)
    refine Wc_sub (l := [(10, .int .i64 ((s : Nat) : Int)), (3, .pointer (some ⟨N, 0, none⟩)), (1, .string f), (2, .string t)]) (SubL.cons rfl (SubL.cons rfl (SubL.cons rfl (SubL.cons rfl SubL.nil)))) ?_
    refine Wc_rs ?_
    refine Wl_move7 rfl fun _ => ?_
    refine Wl_move rfl rfl ?_
    refine Wl_field rfl rfl ?_
    refine Wl_idxA hk rfl rfl rfl ?_
    refine Wl_loadL (hTs s hk) rfl rfl ?_
    refine Wl_lenL rfl rfl ?_
    refine Wl_add rfl rfl rfl fun _ => ?_
    refine Wl_assign7 rfl rfl ?_
    refine Wl_end ?_
    refine Wc_seq (Wc_rs ?_)
    refine Wl_move7 rfl fun _ => ?_
    refine Wl_gtr rfl rfl ?_
    refine Wl_end (Wc_guard_m hr rfl fun _ => ?_)
    refine Wc_sub (l := [(10, .int .i64 ((s : Nat) : Int)), (3, .pointer (some ⟨N, 0, none⟩)), (1, .string f), (2, .string t)]) (SubL.cons rfl (SubL.cons rfl (SubL.cons rfl (SubL.cons rfl SubL.nil)))) ?_
    refine Wc_rs ?_
    refine Wl_assignc rfl ?_
    refine Wl_end ?_
    exact by_tab hk (hTs s hk) (hTab s hk) (by omega) (SubL.cons rfl (SubL.cons rfl (SubL.cons rfl (SubL.cons rfl (SubL.cons rfl SubL.nil))))) hr (fun hrows => (hend (all_succ hI ⟨by omega, hrows⟩)))
end
end Go.Proofs.Qxb6623423a.Seat
