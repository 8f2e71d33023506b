/- Seat b6623423a: zzBytes: the loops over an entry's children and spans (laid by a small generator over the function's list of operations). -/
import Derived.Test.Qxb6623423aSeatSt
namespace Go.Proofs.Qxb6623423a.Seat
open Go.RowKit

section
variable {W : World} {N : Nat} {f t : ByteArray} {Q : Exit → Act → World → Prop} {L0 : List (Nat × Value)}
theorem by_kids {s i d tn tc tb tq rn rc rb rq : Nat} {ta ra : Option Addr} (hs : s < 2) (hT : W.cell? ⟨N, 11 + s, none⟩ = some (.slice ta tn tc)) (hta : ta = some ⟨tb, tq, none⟩) (hi : i < tn) (hR : W.cell? ⟨tb, tq + i, none⟩ = some (.slice ra rn rc)) (hra : ra = some ⟨rb, rq, none⟩) (hd : d < rn) {ca : Option Addr} {cn cc : Nat} {ch : Nat → ByteArray} (e5 : W.cell? ⟨rb, rq + d * 7 + 5, none⟩ = some (.slice ca cn cc)) (hrow : StrRow W ca cn ch) (hcn : cn ≤ 1048576)
    (hL : SubL ((13, .int .i64 ((0 : Nat) : Int)) :: [(12, .int .i64 ((d : Nat) : Int)), (11, .int .i64 ((i : Nat) : Int)), (10, .int .i64 ((s : Nat) : Int)), (3, .pointer (some ⟨N, 0, none⟩)), (1, .string f), (2, .string t)]) L0) (hr : HR Q W) (hq : ∀ a, Frm [(12, .int .i64 ((d : Nat) : Int)), (11, .int .i64 ((i : Nat) : Int)), (10, .int .i64 ((s : Nat) : Int)), (3, .pointer (some ⟨N, 0, none⟩)), (1, .string f), (2, .string t)] a → Q .normal a W) :
    Wc Q W L0 ((findB 10 (Try.f4.body.getD .skip)).getD .skip) := by
  conv => arg 4; whnf
  refine Wc_for (fun _ => True) cn 13 [(12, .int .i64 ((d : Nat) : Int)), (11, .int .i64 ((i : Nat) : Int)), (10, .int .i64 ((s : Nat) : Int)), (3, .pointer (some ⟨N, 0, none⟩)), (1, .string f), (2, .string t)] hL trivial hcn rfl rfl rfl rfl rfl ?_ ?_ hr (fun hI a ha => hq a (ha.sub (SubL.cons rfl (SubL.cons rfl (SubL.cons rfl (SubL.cons rfl (SubL.cons rfl (SubL.cons rfl SubL.nil))))))))
  · intro c ops Q1 hk hend
    refine Wl_move rfl rfl ?_
    refine Wl_move rfl rfl ?_
    refine Wl_field rfl rfl ?_
    refine Wl_idxA hs rfl rfl rfl ?_
    refine Wl_loadL hT rfl rfl ?_
    refine Wl_move rfl rfl ?_
    refine Wl_idx1 hi hta rfl rfl rfl ?_
    refine Wl_loadL hR rfl rfl ?_
    refine Wl_move rfl rfl ?_
    refine Wl_idxS hd hra rfl rfl rfl ?_
    refine Wl_field rfl rfl ?_
    refine Wl_loadL e5 rfl rfl ?_
    refine Wl_lenL rfl rfl ?_
    refine Wl_lss rfl rfl rfl ?_
    exact Wl_nil (hend _ (SubL.cons rfl (SubL.cons rfl (SubL.cons rfl (SubL.cons rfl (SubL.cons rfl (SubL.cons rfl (SubL.cons rfl SubL.nil))))))) rfl)
  · intro c Q1 hk hI hr hend
    rcases hrow with h0 | ⟨cb, cq, hca, _, hS⟩
    · omega
    refine Wc_seq (Wc_rs ?_)
    refine Wl_move rfl rfl ?_
    refine Wl_field rfl rfl ?_
    refine Wl_idxA hs rfl rfl rfl ?_
    refine Wl_loadL hT rfl rfl ?_
    refine Wl_move rfl rfl ?_
    refine Wl_idx1 hi hta rfl rfl rfl ?_
    refine Wl_loadL hR rfl rfl ?_
    refine Wl_move rfl rfl ?_
    refine Wl_idxS hd hra rfl rfl rfl ?_
    refine Wl_field rfl rfl ?_
    refine Wl_loadL e5 rfl rfl ?_
    refine Wl_move rfl rfl ?_
    refine Wl_idx1 hk hca rfl rfl rfl ?_
    refine Wl_loadS (hS c hk) rfl rfl ?_
    refine Wl_lenS rfl rfl ?_
    refine Wl_gtr rfl rfl ?_
    refine Wl_end (Wc_guard_m hr rfl fun _ => ?_)
    refine Wc_sub (l := [(13, .int .i64 ((c : Nat) : Int)), (12, .int .i64 ((d : Nat) : Int)), (11, .int .i64 ((i : Nat) : Int)), (10, .int .i64 ((s : Nat) : Int)), (3, .pointer (some ⟨N, 0, none⟩)), (1, .string f), (2, .string t)]) (SubL.cons rfl (SubL.cons rfl (SubL.cons rfl (SubL.cons rfl (SubL.cons rfl (SubL.cons rfl (SubL.cons rfl SubL.nil))))))) ?_
    refine Wc_rs ?_
    refine Wl_move7 rfl fun _ => ?_
    refine Wl_move rfl rfl ?_
    refine Wl_field rfl rfl ?_
    refine Wl_idxA hs rfl rfl rfl ?_
    refine Wl_loadL hT rfl rfl ?_
    refine Wl_move rfl rfl ?_
    refine Wl_idx1 hi hta rfl rfl rfl ?_
    refine Wl_loadL hR rfl rfl ?_
    refine Wl_move rfl rfl ?_
    refine Wl_idxS hd hra rfl rfl rfl ?_
    refine Wl_field rfl rfl ?_
    refine Wl_loadL e5 rfl rfl ?_
    refine Wl_move rfl rfl ?_
    refine Wl_idx1 hk hca rfl rfl rfl ?_
    refine Wl_loadS (hS c hk) rfl rfl ?_
    refine Wl_lenS rfl rfl ?_
    refine Wl_add rfl rfl rfl fun _ => ?_
    refine Wl_assign7 rfl rfl ?_
    refine Wl_end ?_
    refine Wc_rs ?_
    refine Wl_move7 rfl fun _ => ?_
    refine Wl_gtr rfl rfl ?_
    refine Wl_end (Wc_guard hr rfl fun _ a ha => hend trivial a (ha.sub (SubL.cons rfl (SubL.cons rfl (SubL.cons rfl (SubL.cons rfl (SubL.cons rfl (SubL.cons rfl (SubL.cons rfl SubL.nil)))))))))

theorem by_spans {s i d tn tc tb tq rn rc rb rq : Nat} {ta ra : Option Addr} (hs : s < 2) (hT : W.cell? ⟨N, 11 + s, none⟩ = some (.slice ta tn tc)) (hta : ta = some ⟨tb, tq, none⟩) (hi : i < tn) (hR : W.cell? ⟨tb, tq + i, none⟩ = some (.slice ra rn rc)) (hra : ra = some ⟨rb, rq, none⟩) (hd : d < rn) {sa : Option Addr} {sn sc : Nat} {slo shi : Nat → ByteArray} (e6 : W.cell? ⟨rb, rq + d * 7 + 6, none⟩ = some (.slice sa sn sc)) (hrow : PairRow W sa sn slo shi) (hcn : sn ≤ 1048576)
    (hL : SubL ((14, .int .i64 ((0 : Nat) : Int)) :: [(12, .int .i64 ((d : Nat) : Int)), (11, .int .i64 ((i : Nat) : Int)), (10, .int .i64 ((s : Nat) : Int)), (3, .pointer (some ⟨N, 0, none⟩)), (1, .string f), (2, .string t)]) L0) (hr : HR Q W) (hq : ∀ a, Frm [(12, .int .i64 ((d : Nat) : Int)), (11, .int .i64 ((i : Nat) : Int)), (10, .int .i64 ((s : Nat) : Int)), (3, .pointer (some ⟨N, 0, none⟩)), (1, .string f), (2, .string t)] a → Q .normal a W) :
    Wc Q W L0 ((findB 12 (Try.f4.body.getD .skip)).getD .skip) := by
  conv => arg 4; whnf
  refine Wc_for (fun _ => True) sn 14 [(12, .int .i64 ((d : Nat) : Int)), (11, .int .i64 ((i : Nat) : Int)), (10, .int .i64 ((s : Nat) : Int)), (3, .pointer (some ⟨N, 0, none⟩)), (1, .string f), (2, .string t)] hL trivial hcn rfl rfl rfl rfl rfl ?_ ?_ hr (fun hI a ha => hq a (ha.sub (SubL.cons rfl (SubL.cons rfl (SubL.cons rfl (SubL.cons rfl (SubL.cons rfl (SubL.cons rfl SubL.nil))))))))
  · intro c ops Q1 hk hend
    refine Wl_move rfl rfl ?_
    refine Wl_move rfl rfl ?_
    refine Wl_field rfl rfl ?_
    refine Wl_idxA hs rfl rfl rfl ?_
    refine Wl_loadL hT rfl rfl ?_
    refine Wl_move rfl rfl ?_
    refine Wl_idx1 hi hta rfl rfl rfl ?_
    refine Wl_loadL hR rfl rfl ?_
    refine Wl_move rfl rfl ?_
    refine Wl_idxS hd hra rfl rfl rfl ?_
    refine Wl_field rfl rfl ?_
    refine Wl_loadL e6 rfl rfl ?_
    refine Wl_lenL rfl rfl ?_
    refine Wl_lss rfl rfl rfl ?_
    exact Wl_nil (hend _ (SubL.cons rfl (SubL.cons rfl (SubL.cons rfl (SubL.cons rfl (SubL.cons rfl (SubL.cons rfl (SubL.cons rfl SubL.nil))))))) rfl)
  · intro c Q1 hk hI hr hend
    rcases hrow with h0 | ⟨sb, sq, hsa, _, hP⟩
    · omega
    refine Wc_seq (Wc_rs ?_)
    refine Wl_move rfl rfl ?_
    refine Wl_field rfl rfl ?_
    refine Wl_idxA hs rfl rfl rfl ?_
    refine Wl_loadL hT rfl rfl ?_
    refine Wl_move rfl rfl ?_
    refine Wl_idx1 hi hta rfl rfl rfl ?_
    refine Wl_loadL hR rfl rfl ?_
    refine Wl_move rfl rfl ?_
    refine Wl_idxS hd hra rfl rfl rfl ?_
    refine Wl_field rfl rfl ?_
    refine Wl_loadL e6 rfl rfl ?_
    refine Wl_move rfl rfl ?_
    refine Wl_idxS hk hsa rfl rfl rfl ?_
    refine Wl_field rfl rfl ?_
    refine Wl_loadS (hP c hk).1 rfl rfl ?_
    refine Wl_lenS rfl rfl ?_
    refine Wl_gtr rfl rfl ?_
    refine Wl_end (Wc_guard_m hr rfl fun _ => ?_)
    refine Wc_sub (l := [(14, .int .i64 ((c : Nat) : Int)), (12, .int .i64 ((d : Nat) : Int)), (11, .int .i64 ((i : Nat) : Int)), (10, .int .i64 ((s : Nat) : Int)), (3, .pointer (some ⟨N, 0, none⟩)), (1, .string f), (2, .string t)]) (SubL.cons rfl (SubL.cons rfl (SubL.cons rfl (SubL.cons rfl (SubL.cons rfl (SubL.cons rfl (SubL.cons rfl SubL.nil))))))) ?_
    refine Wc_rs ?_
    refine Wl_move7 rfl fun _ => ?_
    refine Wl_move rfl rfl ?_
    refine Wl_field rfl rfl ?_
    refine Wl_idxA hs rfl rfl rfl ?_
    refine Wl_loadL hT rfl rfl ?_
    refine Wl_move rfl rfl ?_
    refine Wl_idx1 hi hta rfl rfl rfl ?_
    refine Wl_loadL hR rfl rfl ?_
    refine Wl_move rfl rfl ?_
    refine Wl_idxS hd hra rfl rfl rfl ?_
    refine Wl_field rfl rfl ?_
    refine Wl_loadL e6 rfl rfl ?_
    refine Wl_move rfl rfl ?_
    refine Wl_idxS hk hsa rfl rfl rfl ?_
    refine Wl_field rfl rfl ?_
    refine Wl_loadS (hP c hk).1 rfl rfl ?_
    refine Wl_lenS rfl rfl ?_
    refine Wl_add rfl rfl rfl fun _ => ?_
    refine Wl_assign7 rfl rfl ?_
    refine Wl_end ?_
    refine Wc_seq (Wc_rs ?_)
    refine Wl_move7 rfl fun _ => ?_
    refine Wl_gtr rfl rfl ?_
    refine Wl_end (Wc_guard_m hr rfl fun _ => ?_)
    refine Wc_sub (l := [(14, .int .i64 ((c : Nat) : Int)), (12, .int .i64 ((d : Nat) : Int)), (11, .int .i64 ((i : Nat) : Int)), (10, .int .i64 ((s : Nat) : Int)), (3, .pointer (some ⟨N, 0, none⟩)), (1, .string f), (2, .string t)]) (SubL.cons rfl (SubL.cons rfl (SubL.cons rfl (SubL.cons rfl (SubL.cons rfl (SubL.cons rfl (SubL.cons rfl SubL.nil))))))) ?_
    refine Wc_seq (Wc_rs ?_)
    refine Wl_move rfl rfl ?_
    refine Wl_field rfl rfl ?_
    refine Wl_idxA hs rfl rfl rfl ?_
    refine Wl_loadL hT rfl rfl ?_
    refine Wl_move rfl rfl ?_
    refine Wl_idx1 hi hta rfl rfl rfl ?_
    refine Wl_loadL hR rfl rfl ?_
    refine Wl_move rfl rfl ?_
    refine Wl_idxS hd hra rfl rfl rfl ?_
    refine Wl_field rfl rfl ?_
    refine Wl_loadL e6 rfl rfl ?_
    refine Wl_move rfl rfl ?_
    refine Wl_idxS hk hsa rfl rfl rfl ?_
    refine Wl_field rfl rfl ?_
    refine Wl_loadS (hP c hk).2 rfl rfl ?_
    refine Wl_lenS rfl rfl ?_
    refine Wl_gtr rfl rfl ?_
    refine Wl_end (Wc_guard_m hr rfl fun _ => ?_)
    refine Wc_sub (l := [(14, .int .i64 ((c : Nat) : Int)), (12, .int .i64 ((d : Nat) : Int)), (11, .int .i64 ((i : Nat) : Int)), (10, .int .i64 ((s : Nat) : Int)), (3, .pointer (some ⟨N, 0, none⟩)), (1, .string f), (2, .string t)]) (SubL.cons rfl (SubL.cons rfl (SubL.cons rfl (SubL.cons rfl (SubL.cons rfl (SubL.cons rfl (SubL.cons rfl SubL.nil))))))) ?_
    refine Wc_rs ?_
    refine Wl_move7 rfl fun _ => ?_
    refine Wl_move rfl rfl ?_
    refine Wl_field rfl rfl ?_
    refine Wl_idxA hs rfl rfl rfl ?_
    refine Wl_loadL hT rfl rfl ?_
    refine Wl_move rfl rfl ?_
    refine Wl_idx1 hi hta rfl rfl rfl ?_
    refine Wl_loadL hR rfl rfl ?_
    refine Wl_move rfl rfl ?_
    refine Wl_idxS hd hra rfl rfl rfl ?_
    refine Wl_field rfl rfl ?_
    refine Wl_loadL e6 rfl rfl ?_
    refine Wl_move rfl rfl ?_
    refine Wl_idxS hk hsa rfl rfl rfl ?_
    refine Wl_field rfl rfl ?_
    refine Wl_loadS (hP c hk).2 rfl rfl ?_
    refine Wl_lenS rfl rfl ?_
    refine Wl_add rfl rfl rfl fun _ => ?_
    refine Wl_assign7 rfl rfl ?_
    refine Wl_end ?_
    refine Wc_rs ?_
    refine Wl_move7 rfl fun _ => ?_
    refine Wl_gtr rfl rfl ?_
    refine Wl_end (Wc_guard hr rfl fun _ a ha => hend trivial a (ha.sub (SubL.cons rfl (SubL.cons rfl (SubL.cons rfl (SubL.cons rfl (SubL.cons rfl (SubL.cons rfl (SubL.cons rfl SubL.nil)))))))))
end
end Go.Proofs.Qxb6623423a.Seat
