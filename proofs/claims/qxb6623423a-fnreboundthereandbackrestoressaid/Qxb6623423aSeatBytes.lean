/- Seat b6623423a: zzBytes (laid by a small generator over the function's list of operations). -/
import Derived.Test.Qxb6623423aSeatBy3
namespace Go.Proofs.Qxb6623423a.Seat
open Go.RowKit

theorem by_rest {W : World} {N : Nat} {f t : ByteArray} {Q : Exit → Act → World → Prop} {A : Adr} {D : Plc} (hB : PlBox W N A D) (hP : PlIn W A D) (hr : HR Q W)
    (hfin : D.sn ≤ 1048576 → (∀ s, s < 2 → TabOk (D.t s)) → (∀ s, s < 2 → TabUOk (D.u s)) → ∀ a : Act, a.defers = [] → a.tmps.getD 6 undef = .bool true → Q .ret a W) :
    Wc Q W [(3, .pointer (some ⟨N, 0, none⟩)), (1, .string f), (2, .string t)] (tail 2 (Try.f4.body.getD .skip)) := by
  obtain ⟨_, _, _, c3, c4, c5, c6, c7, c8, c9, c11, c13⟩ := hB
  conv => arg 4; whnf
  refine Wc_seq (Wc_rs ?_)
  refine Wl_field rfl rfl ?_
  refine Wl_field rfl rfl ?_
  refine Wl_loadS c3 rfl rfl ?_
  refine Wl_lenS rfl rfl ?_
  refine Wl_gtr rfl rfl ?_
  refine Wl_end (Wc_guard_m hr rfl fun _ => ?_)
  refine Wc_sub (l := [(3, .pointer (some ⟨N, 0, none⟩)), (1, .string f), (2, .string t)]) (SubL.cons rfl (SubL.cons rfl (SubL.cons rfl SubL.nil))) ?_
  refine Wc_rs ?_
  refine Wl_move7 rfl fun _ => ?_
  refine Wl_field rfl rfl ?_
  refine Wl_field rfl rfl ?_
  refine Wl_loadS c3 rfl rfl ?_
  refine Wl_lenS rfl rfl ?_
  refine Wl_add rfl rfl rfl fun _ => ?_
  refine Wl_assign7 rfl rfl ?_
  refine Wl_end ?_
  refine Wc_seq (Wc_rs ?_)
  refine Wl_move7 rfl fun _ => ?_
  refine Wl_gtr rfl rfl ?_
  refine Wl_end (Wc_guard_m hr rfl fun _ => ?_)
  refine Wc_sub (l := [(3, .pointer (some ⟨N, 0, none⟩)), (1, .string f), (2, .string t)]) (SubL.cons rfl (SubL.cons rfl (SubL.cons rfl SubL.nil))) ?_
  refine Wc_seq (Wc_rs ?_)
  refine Wl_field rfl rfl ?_
  refine Wl_field rfl rfl ?_
  refine Wl_loadS c4 rfl rfl ?_
  refine Wl_lenS rfl rfl ?_
  refine Wl_gtr rfl rfl ?_
  refine Wl_end (Wc_guard_m hr rfl fun _ => ?_)
  refine Wc_sub (l := [(3, .pointer (some ⟨N, 0, none⟩)), (1, .string f), (2, .string t)]) (SubL.cons rfl (SubL.cons rfl (SubL.cons rfl SubL.nil))) ?_
  refine Wc_rs ?_
  refine Wl_move7 rfl fun _ => ?_
  refine Wl_field rfl rfl ?_
  refine Wl_field rfl rfl ?_
  refine Wl_loadS c4 rfl rfl ?_
  refine Wl_lenS rfl rfl ?_
  refine Wl_add rfl rfl rfl fun _ => ?_
  refine Wl_assign7 rfl rfl ?_
  refine Wl_end ?_
  refine Wc_seq (Wc_rs ?_)
  refine Wl_move7 rfl fun _ => ?_
  refine Wl_gtr rfl rfl ?_
  refine Wl_end (Wc_guard_m hr rfl fun _ => ?_)
  refine Wc_sub (l := [(3, .pointer (some ⟨N, 0, none⟩)), (1, .string f), (2, .string t)]) (SubL.cons rfl (SubL.cons rfl (SubL.cons rfl SubL.nil))) ?_
  refine Wc_seq (Wc_rs ?_)
  refine Wl_field rfl rfl ?_
  refine Wl_loadS c5 rfl rfl ?_
  refine Wl_lenS rfl rfl ?_
  refine Wl_gtr rfl rfl ?_
  refine Wl_end (Wc_guard_m hr rfl fun _ => ?_)
  refine Wc_sub (l := [(3, .pointer (some ⟨N, 0, none⟩)), (1, .string f), (2, .string t)]) (SubL.cons rfl (SubL.cons rfl (SubL.cons rfl SubL.nil))) ?_
  refine Wc_rs ?_
  refine Wl_move7 rfl fun _ => ?_
  refine Wl_field rfl rfl ?_
  refine Wl_loadS c5 rfl rfl ?_
  refine Wl_lenS rfl rfl ?_
  refine Wl_add rfl rfl rfl fun _ => ?_
  refine Wl_assign7 rfl rfl ?_
  refine Wl_end ?_
  refine Wc_seq (Wc_rs ?_)
  refine Wl_move7 rfl fun _ => ?_
  refine Wl_gtr rfl rfl ?_
  refine Wl_end (Wc_guard_m hr rfl fun _ => ?_)
  refine Wc_sub (l := [(3, .pointer (some ⟨N, 0, none⟩)), (1, .string f), (2, .string t)]) (SubL.cons rfl (SubL.cons rfl (SubL.cons rfl SubL.nil))) ?_
  refine Wc_seq (Wc_rs ?_)
  refine Wl_field rfl rfl ?_
  refine Wl_field rfl rfl ?_
  refine Wl_loadS c6 rfl rfl ?_
  refine Wl_lenS rfl rfl ?_
  refine Wl_gtr rfl rfl ?_
  refine Wl_end (Wc_guard_m hr rfl fun _ => ?_)
  refine Wc_sub (l := [(3, .pointer (some ⟨N, 0, none⟩)), (1, .string f), (2, .string t)]) (SubL.cons rfl (SubL.cons rfl (SubL.cons rfl SubL.nil))) ?_
  refine Wc_rs ?_
  refine Wl_move7 rfl fun _ => ?_
  refine Wl_field rfl rfl ?_
  refine Wl_field rfl rfl ?_
  refine Wl_loadS c6 rfl rfl ?_
  refine Wl_lenS rfl rfl ?_
  refine Wl_add rfl rfl rfl fun _ => ?_
  refine Wl_assign7 rfl rfl ?_
  refine Wl_end ?_
  refine Wc_seq (Wc_rs ?_)
  refine Wl_move7 rfl fun _ => ?_
  refine Wl_gtr rfl rfl ?_
  refine Wl_end (Wc_guard_m hr rfl fun _ => ?_)
  refine Wc_sub (l := [(3, .pointer (some ⟨N, 0, none⟩)), (1, .string f), (2, .string t)]) (SubL.cons rfl (SubL.cons rfl (SubL.cons rfl SubL.nil))) ?_
  refine Wc_seq (Wc_rs ?_)
  refine Wl_field rfl rfl ?_
  refine Wl_field rfl rfl ?_
  refine Wl_loadS c7 rfl rfl ?_
  refine Wl_lenS rfl rfl ?_
  refine Wl_gtr rfl rfl ?_
  refine Wl_end (Wc_guard_m hr rfl fun _ => ?_)
  refine Wc_sub (l := [(3, .pointer (some ⟨N, 0, none⟩)), (1, .string f), (2, .string t)]) (SubL.cons rfl (SubL.cons rfl (SubL.cons rfl SubL.nil))) ?_
  refine Wc_rs ?_
  refine Wl_move7 rfl fun _ => ?_
  refine Wl_field rfl rfl ?_
  refine Wl_field rfl rfl ?_
  refine Wl_loadS c7 rfl rfl ?_
  refine Wl_lenS rfl rfl ?_
  refine Wl_add rfl rfl rfl fun _ => ?_
  refine Wl_assign7 rfl rfl ?_
  refine Wl_end ?_
  refine Wc_seq (Wc_rs ?_)
  refine Wl_move7 rfl fun _ => ?_
  refine Wl_gtr rfl rfl ?_
  refine Wl_end (Wc_guard_m hr rfl fun _ => ?_)
  refine Wc_sub (l := [(3, .pointer (some ⟨N, 0, none⟩)), (1, .string f), (2, .string t)]) (SubL.cons rfl (SubL.cons rfl (SubL.cons rfl SubL.nil))) ?_
  refine Wc_seq (Wc_rs ?_)
  refine Wl_field rfl rfl ?_
  refine Wl_loadL c8 rfl rfl ?_
  refine Wl_lenL rfl rfl ?_
  refine Wl_gtr rfl rfl ?_
  refine Wl_end (Wc_guard_m hr rfl fun g1 => ?_)
  refine Wc_sub (l := [(3, .pointer (some ⟨N, 0, none⟩)), (1, .string f), (2, .string t)]) (SubL.cons rfl (SubL.cons rfl (SubL.cons rfl SubL.nil))) ?_
  refine Wc_rs ?_
  refine Wl_move7 rfl fun _ => ?_
  refine Wl_field rfl rfl ?_
  refine Wl_loadL c8 rfl rfl ?_
  refine Wl_lenL rfl rfl ?_
  refine Wl_add rfl rfl rfl fun _ => ?_
  refine Wl_assign7 rfl rfl ?_
  refine Wl_end ?_
  refine Wc_seq (Wc_rs ?_)
  refine Wl_move7 rfl fun _ => ?_
  refine Wl_gtr rfl rfl ?_
  refine Wl_end (Wc_guard_m hr rfl fun _ => ?_)
  refine Wc_sub (l := [(3, .pointer (some ⟨N, 0, none⟩)), (1, .string f), (2, .string t)]) (SubL.cons rfl (SubL.cons rfl (SubL.cons rfl SubL.nil))) ?_
  refine Wc_seq (Wc_rs ?_)
  refine Wl_assignc rfl ?_
  refine Wl_end ?_
  refine by_slots c8 hP.2.1 (by omega) (SubL.cons rfl (SubL.cons rfl (SubL.cons rfl (SubL.cons rfl SubL.nil)))) hr.then (Wc.nrm ?_)
  refine Wc_seq (Wc_rs ?_)
  refine Wl_assignc rfl ?_
  refine Wl_end ?_
  refine by_adj c9 (SubL.cons rfl (SubL.cons rfl (SubL.cons rfl (SubL.cons rfl SubL.nil)))) hr.then (Wc.nrm ?_)
  refine Wc_seq (Wc_rs ?_)
  refine Wl_assignc rfl ?_
  refine Wl_end ?_
  refine by_tabs c11 hP.2.2.1 (SubL.cons rfl (SubL.cons rfl (SubL.cons rfl (SubL.cons rfl SubL.nil)))) hr.then (fun hX => Wc.nrm ?_)
  refine Wc_seq (Wc_rs ?_)
  refine Wl_assignc rfl ?_
  refine Wl_end ?_
  refine by_utabs c13 hP.2.2.2 (SubL.cons rfl (SubL.cons rfl (SubL.cons rfl (SubL.cons rfl SubL.nil)))) hr.then (fun hY => Wc.nrm ?_)
  refine Wc_seq (Wc_rs ?_)
  refine Wl_move rfl rfl ?_
  refine Wl_lenS rfl rfl ?_
  refine Wl_gtr rfl rfl ?_
  refine Wl_end (Wc_guard_m hr rfl fun _ => ?_)
  refine Wc_sub (l := [(3, .pointer (some ⟨N, 0, none⟩)), (1, .string f), (2, .string t)]) (SubL.cons rfl (SubL.cons rfl (SubL.cons rfl SubL.nil))) ?_
  refine Wc_rs ?_
  refine Wl_move7 rfl fun _ => ?_
  refine Wl_move rfl rfl ?_
  refine Wl_lenS rfl rfl ?_
  refine Wl_add rfl rfl rfl fun _ => ?_
  refine Wl_assign7 rfl rfl ?_
  refine Wl_end ?_
  refine Wc_seq (Wc_rs ?_)
  refine Wl_move7 rfl fun _ => ?_
  refine Wl_gtr rfl rfl ?_
  refine Wl_end (Wc_guard_m hr rfl fun _ => ?_)
  refine Wc_sub (l := [(3, .pointer (some ⟨N, 0, none⟩)), (1, .string f), (2, .string t)]) (SubL.cons rfl (SubL.cons rfl (SubL.cons rfl SubL.nil))) ?_
  refine Wc_seq (Wc_rs ?_)
  refine Wl_move rfl rfl ?_
  refine Wl_lenS rfl rfl ?_
  refine Wl_gtr rfl rfl ?_
  refine Wl_end (Wc_guard_m hr rfl fun _ => ?_)
  refine Wc_sub (l := [(3, .pointer (some ⟨N, 0, none⟩)), (1, .string f), (2, .string t)]) (SubL.cons rfl (SubL.cons rfl (SubL.cons rfl SubL.nil))) ?_
  refine Wc_rs ?_
  refine Wl_move7 rfl fun _ => ?_
  refine Wl_move rfl rfl ?_
  refine Wl_lenS rfl rfl ?_
  refine Wl_add rfl rfl rfl fun _ => ?_
  refine Wl_assign7 rfl rfl ?_
  refine Wl_end ?_
  refine Wc_seq (Wc_rs ?_)
  refine Wl_move7 rfl fun _ => ?_
  refine Wl_gtr rfl rfl ?_
  refine Wl_end (Wc_guard_m hr rfl fun _ => ?_)
  refine Wc_sub (l := [(3, .pointer (some ⟨N, 0, none⟩)), (1, .string f), (2, .string t)]) (SubL.cons rfl (SubL.cons rfl (SubL.cons rfl SubL.nil))) ?_
  refine Wc_rs ?_
  refine Wl_assignc rfl ?_
  refine Wl_end ?_
  exact fun a ha => wp_ret (hfin (by omega) hX hY a ha.dfr (ha.at_ 6 _ rfl))

theorem r_box {ev : Operand → Value} {d : Nat} {ty : TypeId} {pos : String} {aft : Array Edge} {w : World} {c : Array Value} (h : ev (.tmp 0) = .agg c) :
    (execOp ev ⟨some d, .box 33 (.tmp 0), ty, pos, aft, none⟩).run Try.prog w = .ok (.value (.pointer (some ⟨w.heap.size, 0, none⟩))) (w.alloc (.cells c 33)) := by
  simp [go_sem, h]

theorem bytes (A : Adr) (D : Plc) (f t : ByteArray) (w : World) (h : PlIn w A D) :
    Calls Try.prog 4 #[.agg (plC A D), .string f, .string t] w fun e w' => (e = .returned (.bool false) ∨ (e = .returned (.bool true) ∧ D.sn ≤ 1048576 ∧ (∀ s, s < 2 → TabOk (D.t s)) ∧ (∀ s, s < 2 → TabUOk (D.u s)))) ∧ Below w.heap.size w w' := by
  have hI : InB w A D (w.alloc (.cells (plC A D) 33)) := InB.start
  refine calls_of_wp Try.func4 rfl ?_
  generalize ha : ({ tmps := #[.agg (plC A D), .string f, .string t] ++ Array.replicate (Try.f4.ntmps - (#[.agg (plC A D), .string f, .string t] : Array Value).size) undef, defers := [] } : Act) = a
  have hsz : a.tmps.size = 762 := by subst ha; simp [Try.ntmps4]
  have hdf : a.defers = [] := by subst ha; rfl
  have h0 : a.eval (.tmp 0) = .agg (plC A D) := by subst ha; simp [Act.eval, Array.getD_eq_getD_getElem?]
  have h1 : a.tmps.getD 1 undef = .string f := by subst ha; simp [Array.getD_eq_getD_getElem?]
  have h2 : a.tmps.getD 2 undef = .string t := by subst ha; simp [Array.getD_eq_getD_getElem?]
  clear ha
  conv => arg 2; whnf
  refine wp_seq (wp_region_lit (op_ok rfl rfl (r_box h0) (op_ok rfl rfl (r_assign rfl) (wpList_nil ?_))))
  refine wp_seq (wp_region_lit (op_ok rfl rfl (r_assign rfl) (wpList_nil ?_)))
  refine by_rest (N := w.heap.size) (f := f) (t := t) hI.box (h.below hI.below) ?_ ?_ _ ⟨?_, ?_, ?_, ?_⟩
  · intro a hd h6
    exact ⟨hd, _, results_tmp (t := 6) rfl _ _ _, by rw [h6]; exact ⟨Or.inl rfl, hI.below⟩⟩
  · intro g1 g2 g3 a hd h6
    exact ⟨hd, _, results_tmp (t := 6) rfl _ _ _, by rw [h6]; exact ⟨Or.inr ⟨rfl, g1, g2, g3⟩, hI.below⟩⟩
  · simp only [put_size, hsz]
  · simp only [put_dfr, hdf]
  · exact ⟨0, put_same (by simp only [put_size, hsz]; decide)⟩
  · intro i v hv
    rcases look_cons hv with ⟨rfl, rfl⟩ | ⟨_, hv⟩
    · rw [put_other (by decide), put_other (by decide)]
      exact put_same (by rw [hsz]; decide)
    rcases look_cons hv with ⟨rfl, rfl⟩ | ⟨_, hv⟩
    · rw [put_other (by decide), put_other (by decide), put_other (by decide)]
      exact h1
    rcases look_cons hv with ⟨rfl, rfl⟩ | ⟨_, hv⟩
    · rw [put_other (by decide), put_other (by decide), put_other (by decide)]
      exact h2
    cases hv
end Go.Proofs.Qxb6623423a.Seat
