import Derived.Test.Qxb6604078aW5
namespace Go.Proofs.Qxb6604078a
open Go.RowKit Go.Proofs.Qxb6604078a.Env

set_option maxRecDepth 100000 in
set_option maxHeartbeats 4000000 in
theorem bytes8_any (nm ti bd : ByteArray) (da : Option Addr) (dn dc : Nat) (D : Nat → TwoV) (ra : Option Addr) (rn rc : Nat) (R : Nat → RouteV) (bv : Option Addr) (w : World) (hD : Twos w da dn dc D) (hR : Rts w ra rn rc R) (hbv : BV w bv) :
    Calls Try.prog 8 #[.string nm, .string ti, .slice da dn dc, .slice ra rn rc, .pointer bv, .string bd] w fun e w' => RetB e ∧ w = w' := by
  have hc := hD.le
  have hm := hD.cap
  have ha := hD.here
  have gc := hR.le
  have gm := hR.cap
  have ga := hR.here
  clear hD hR
  refine calls_env (N := 691) (env := [(0, .string nm), (1, .string ti), (2, .slice da dn dc), (3, .slice ra rn rc), (4, .pointer bv), (5, .string bd)]) Try.func8 rfl rfl (by simp) (args_six _ _ _ _ _ _) ?_
  refine cw_seq ?_
  refine cw_region ?_
  refine lw_const (by decide) ?_
  refine lw_nil ?_
  refine pw_then ?_
  refine cw_seq ?_
  refine cw_region ?_
  refine lw_const (by decide) ?_
  refine lw_nil ?_
  refine pw_then ?_
  refine cw_seq ?_
  refine cw_seq ?_
  refine cw_region ?_
  refine lw_move rfl (by decide) ?_
  refine lw_lenString rfl Try.underlying9 (by decide) ?_
  refine lw_gtr rfl (by decide) ?_
  refine lw_nil ?_
  refine pw_then ?_
  refine cw_cond rfl (fun _ => ?_) (fun h => ?_)
  · skip
    refine cw_seq ?_
    refine cw_region ?_
    refine lw_const (by decide) ?_
    refine lw_nil ?_
    refine pw_then ?_
    refine cw_ret ?_
    refine pw_then_ret ?_
    exact pw_result rfl rfl ⟨retB _, rfl⟩
  clear h
  refine cw_sub (sub_cons (t := 0) rfl (sub_cons (t := 1) rfl (sub_cons (t := 2) rfl (sub_cons (t := 3) rfl (sub_cons (t := 4) rfl (sub_cons (t := 5) rfl (sub_cons (t := 13) rfl (sub_nil _)))))))) ?_
  refine cw_skip ?_
  refine pw_then ?_
  refine cw_seq ?_
  refine cw_region ?_
  refine lw_move rfl (by decide) ?_
  refine lw_move rfl (by decide) ?_
  refine lw_lenString rfl Try.underlying9 (by decide) ?_
  refine lw_add rfl rfl (by decide) ?_
  refine lw_assign rfl (by decide) ?_
  refine lw_nil ?_
  refine pw_then ?_
  refine cw_seq ?_
  refine cw_seq ?_
  refine cw_region ?_
  refine lw_move rfl (by decide) ?_
  refine lw_gtr rfl (by decide) ?_
  refine lw_nil ?_
  refine pw_then ?_
  refine cw_cond rfl (fun _ => ?_) (fun h => ?_)
  · skip
    refine cw_seq ?_
    refine cw_region ?_
    refine lw_const (by decide) ?_
    refine lw_nil ?_
    refine pw_then ?_
    refine cw_ret ?_
    refine pw_then_ret ?_
    exact pw_result rfl rfl ⟨retB _, rfl⟩
  clear h
  refine cw_sub (sub_cons (t := 0) rfl (sub_cons (t := 1) rfl (sub_cons (t := 2) rfl (sub_cons (t := 3) rfl (sub_cons (t := 4) rfl (sub_cons (t := 5) rfl (sub_cons (t := 13) rfl (sub_nil _)))))))) ?_
  refine cw_skip ?_
  refine pw_then ?_
  refine cw_seq ?_
  refine cw_seq ?_
  refine cw_region ?_
  refine lw_move rfl (by decide) ?_
  refine lw_lenString rfl Try.underlying9 (by decide) ?_
  refine lw_gtr rfl (by decide) ?_
  refine lw_nil ?_
  refine pw_then ?_
  refine cw_cond rfl (fun _ => ?_) (fun h => ?_)
  · skip
    refine cw_seq ?_
    refine cw_region ?_
    refine lw_const (by decide) ?_
    refine lw_nil ?_
    refine pw_then ?_
    refine cw_ret ?_
    refine pw_then_ret ?_
    exact pw_result rfl rfl ⟨retB _, rfl⟩
  clear h
  refine cw_sub (sub_cons (t := 0) rfl (sub_cons (t := 1) rfl (sub_cons (t := 2) rfl (sub_cons (t := 3) rfl (sub_cons (t := 4) rfl (sub_cons (t := 5) rfl (sub_cons (t := 13) rfl (sub_nil _)))))))) ?_
  refine cw_skip ?_
  refine pw_then ?_
  refine cw_seq ?_
  refine cw_region ?_
  refine lw_move rfl (by decide) ?_
  refine lw_move rfl (by decide) ?_
  refine lw_lenString rfl Try.underlying9 (by decide) ?_
  refine lw_add rfl rfl (by decide) ?_
  refine lw_assign rfl (by decide) ?_
  refine lw_nil ?_
  refine pw_then ?_
  refine cw_seq ?_
  refine cw_seq ?_
  refine cw_region ?_
  refine lw_move rfl (by decide) ?_
  refine lw_gtr rfl (by decide) ?_
  refine lw_nil ?_
  refine pw_then ?_
  refine cw_cond rfl (fun _ => ?_) (fun h => ?_)
  · skip
    refine cw_seq ?_
    refine cw_region ?_
    refine lw_const (by decide) ?_
    refine lw_nil ?_
    refine pw_then ?_
    refine cw_ret ?_
    refine pw_then_ret ?_
    exact pw_result rfl rfl ⟨retB _, rfl⟩
  clear h
  refine cw_sub (sub_cons (t := 0) rfl (sub_cons (t := 1) rfl (sub_cons (t := 2) rfl (sub_cons (t := 3) rfl (sub_cons (t := 4) rfl (sub_cons (t := 5) rfl (sub_cons (t := 13) rfl (sub_nil _)))))))) ?_
  refine cw_skip ?_
  refine pw_then ?_
  refine cw_seq ?_
  refine cw_seq ?_
  refine cw_region ?_
  refine lw_move rfl (by decide) ?_
  refine lw_lenSlice rfl Try.underlying22 (by decide) ?_
  refine lw_gtr rfl (by decide) ?_
  refine lw_nil ?_
  refine pw_then ?_
  refine cw_cond rfl (fun _ => ?_) (fun h => ?_)
  · skip
    refine cw_seq ?_
    refine cw_region ?_
    refine lw_const (by decide) ?_
    refine lw_nil ?_
    refine pw_then ?_
    refine cw_ret ?_
    refine pw_then_ret ?_
    exact pw_result rfl rfl ⟨retB _, rfl⟩
  clear h
  refine cw_sub (sub_cons (t := 0) rfl (sub_cons (t := 1) rfl (sub_cons (t := 2) rfl (sub_cons (t := 3) rfl (sub_cons (t := 4) rfl (sub_cons (t := 5) rfl (sub_cons (t := 13) rfl (sub_nil _)))))))) ?_
  refine cw_skip ?_
  refine pw_then ?_
  refine cw_seq ?_
  refine cw_region ?_
  refine lw_move rfl (by decide) ?_
  refine lw_move rfl (by decide) ?_
  refine lw_lenSlice rfl Try.underlying22 (by decide) ?_
  refine lw_add rfl rfl (by decide) ?_
  refine lw_assign rfl (by decide) ?_
  refine lw_nil ?_
  refine pw_then ?_
  refine cw_seq ?_
  refine cw_seq ?_
  refine cw_region ?_
  refine lw_move rfl (by decide) ?_
  refine lw_gtr rfl (by decide) ?_
  refine lw_nil ?_
  refine pw_then ?_
  refine cw_cond rfl (fun _ => ?_) (fun h => ?_)
  · skip
    refine cw_seq ?_
    refine cw_region ?_
    refine lw_const (by decide) ?_
    refine lw_nil ?_
    refine pw_then ?_
    refine cw_ret ?_
    refine pw_then_ret ?_
    exact pw_result rfl rfl ⟨retB _, rfl⟩
  clear h
  refine cw_sub (sub_cons (t := 0) rfl (sub_cons (t := 1) rfl (sub_cons (t := 2) rfl (sub_cons (t := 3) rfl (sub_cons (t := 4) rfl (sub_cons (t := 5) rfl (sub_cons (t := 13) rfl (sub_nil _)))))))) ?_
  refine cw_skip ?_
  refine pw_then ?_
  refine cw_seq ?_
  refine cw_seq ?_
  refine cw_region ?_
  refine lw_const (by decide) ?_
  refine lw_nil ?_
  refine pw_then ?_
  refine cw_block ?_
  refine cw_loop (z := 13) (i := 14) (n := dn) (fun _ _ => True) (by decide) rfl rfl (sub_cons (t := 0) rfl (sub_cons (t := 1) rfl (sub_cons (t := 2) rfl (sub_cons (t := 3) rfl (sub_cons (t := 4) rfl (sub_cons (t := 5) rfl (sub_nil _))))))) trivial ?_
  intro q1 k1 hk1 _ K1 hp1 he1
  by_cases hlt1 : k1 < dn
  · obtain ⟨b1, o1, hao1, _, hat1⟩ := ha (by omega)
    have hc1 := hat1 k1 hlt1
    generalize D k1 = d1 at hc1
    obtain ⟨dx1, dy1⟩ := d1
    obtain ⟨x01, x11, y01, y11⟩ := hc1
    simp only at x01 x11 y01 y11
    subst hao1
    clear hat1 ha
    refine cw_seq ?_
    refine cw_seq ?_
    refine cw_region ?_
    refine lw_move rfl (by decide) ?_
    refine lw_move rfl (by decide) ?_
    refine lw_lenSlice rfl Try.underlying22 (by decide) ?_
    refine lw_lss rfl rfl (by decide) ?_
    refine lw_nil ?_
    refine pw_then ?_
    refine cw_cond rfl (fun _ => ?_) (fun h => by have := of_decide_eq_false h; omega)
    refine cw_sub (sub_cons (t := 0) rfl (sub_cons (t := 1) rfl (sub_cons (t := 2) rfl (sub_cons (t := 3) rfl (sub_cons (t := 4) rfl (sub_cons (t := 5) rfl (sub_cons (t := 13) rfl (sub_cons (t := 14) rfl (sub_nil _))))))))) ?_
    refine cw_skip ?_
    refine pw_then ?_
    refine cw_seq ?_
    refine cw_block ?_
    refine cw_seq ?_
    refine cw_seq ?_
    refine cw_region ?_
    refine lw_move rfl (by decide) ?_
    refine lw_move rfl (by decide) ?_
    refine i22 rfl rfl (by assumption) (by decide) ?_
    refine f71_0 rfl (by decide) ?_
    refine lw_load rfl ag9 (by assumption) (by decide) ?_
    refine lw_lenString rfl Try.underlying9 (by decide) ?_
    refine lw_gtr rfl (by decide) ?_
    refine lw_nil ?_
    refine pw_then ?_
    refine cw_cond rfl (fun _ => ?_) (fun h => ?_)
    · skip
      refine cw_seq ?_
      refine cw_region ?_
      refine lw_const (by decide) ?_
      refine lw_nil ?_
      refine pw_then ?_
      refine cw_ret ?_
      refine pw_then_ret ?_
      refine pw_block_ret ?_
      refine pw_then_ret ?_
      refine pw_pass_ret hp1 ?_
      refine pw_block_ret ?_
      refine pw_then_ret ?_
      exact pw_result rfl rfl ⟨retB _, rfl⟩
    clear h
    refine cw_sub (sub_cons (t := 0) rfl (sub_cons (t := 1) rfl (sub_cons (t := 2) rfl (sub_cons (t := 3) rfl (sub_cons (t := 4) rfl (sub_cons (t := 5) rfl (sub_cons (t := 13) rfl (sub_cons (t := 14) rfl (sub_nil _))))))))) ?_
    refine cw_skip ?_
    refine pw_then ?_
    refine cw_seq ?_
    refine cw_region ?_
    refine lw_move rfl (by decide) ?_
    refine lw_move rfl (by decide) ?_
    refine lw_move rfl (by decide) ?_
    refine i22 rfl rfl (by assumption) (by decide) ?_
    refine f71_0 rfl (by decide) ?_
    refine lw_load rfl ag9 (by assumption) (by decide) ?_
    refine lw_lenString rfl Try.underlying9 (by decide) ?_
    refine lw_add rfl rfl (by decide) ?_
    refine lw_assign rfl (by decide) ?_
    refine lw_nil ?_
    refine pw_then ?_
    refine cw_seq ?_
    refine cw_seq ?_
    refine cw_region ?_
    refine lw_move rfl (by decide) ?_
    refine lw_gtr rfl (by decide) ?_
    refine lw_nil ?_
    refine pw_then ?_
    refine cw_cond rfl (fun _ => ?_) (fun h => ?_)
    · skip
      refine cw_seq ?_
      refine cw_region ?_
      refine lw_const (by decide) ?_
      refine lw_nil ?_
      refine pw_then ?_
      refine cw_ret ?_
      refine pw_then_ret ?_
      refine pw_block_ret ?_
      refine pw_then_ret ?_
      refine pw_pass_ret hp1 ?_
      refine pw_block_ret ?_
      refine pw_then_ret ?_
      exact pw_result rfl rfl ⟨retB _, rfl⟩
    clear h
    refine cw_sub (sub_cons (t := 0) rfl (sub_cons (t := 1) rfl (sub_cons (t := 2) rfl (sub_cons (t := 3) rfl (sub_cons (t := 4) rfl (sub_cons (t := 5) rfl (sub_cons (t := 13) rfl (sub_cons (t := 14) rfl (sub_nil _))))))))) ?_
    refine cw_skip ?_
    refine pw_then ?_
    refine cw_seq ?_
    refine cw_seq ?_
    refine cw_region ?_
    refine lw_move rfl (by decide) ?_
    refine lw_move rfl (by decide) ?_
    refine i22 rfl rfl (by assumption) (by decide) ?_
    refine f71_1 rfl (by decide) ?_
    refine lw_load rfl ag9 (by assumption) (by decide) ?_
    refine lw_lenString rfl Try.underlying9 (by decide) ?_
    refine lw_gtr rfl (by decide) ?_
    refine lw_nil ?_
    refine pw_then ?_
    refine cw_cond rfl (fun _ => ?_) (fun h => ?_)
    · skip
      refine cw_seq ?_
      refine cw_region ?_
      refine lw_const (by decide) ?_
      refine lw_nil ?_
      refine pw_then ?_
      refine cw_ret ?_
      refine pw_then_ret ?_
      refine pw_block_ret ?_
      refine pw_then_ret ?_
      refine pw_pass_ret hp1 ?_
      refine pw_block_ret ?_
      refine pw_then_ret ?_
      exact pw_result rfl rfl ⟨retB _, rfl⟩
    clear h
    refine cw_sub (sub_cons (t := 0) rfl (sub_cons (t := 1) rfl (sub_cons (t := 2) rfl (sub_cons (t := 3) rfl (sub_cons (t := 4) rfl (sub_cons (t := 5) rfl (sub_cons (t := 13) rfl (sub_cons (t := 14) rfl (sub_nil _))))))))) ?_
    refine cw_skip ?_
    refine pw_then ?_
    refine cw_seq ?_
    refine cw_region ?_
    refine lw_move rfl (by decide) ?_
    refine lw_move rfl (by decide) ?_
    refine lw_move rfl (by decide) ?_
    refine i22 rfl rfl (by assumption) (by decide) ?_
    refine f71_1 rfl (by decide) ?_
    refine lw_load rfl ag9 (by assumption) (by decide) ?_
    refine lw_lenString rfl Try.underlying9 (by decide) ?_
    refine lw_add rfl rfl (by decide) ?_
    refine lw_assign rfl (by decide) ?_
    refine lw_nil ?_
    refine pw_then ?_
    refine cw_seq ?_
    refine cw_region ?_
    refine lw_move rfl (by decide) ?_
    refine lw_gtr rfl (by decide) ?_
    refine lw_nil ?_
    refine pw_then ?_
    refine cw_cond rfl (fun _ => ?_) (fun h => ?_)
    · skip
      refine cw_seq ?_
      refine cw_region ?_
      refine lw_const (by decide) ?_
      refine lw_nil ?_
      refine pw_then ?_
      refine cw_ret ?_
      refine pw_block_ret ?_
      refine pw_then_ret ?_
      refine pw_pass_ret hp1 ?_
      refine pw_block_ret ?_
      refine pw_then_ret ?_
      exact pw_result rfl rfl ⟨retB _, rfl⟩
    clear h
    refine cw_sub (sub_cons (t := 0) rfl (sub_cons (t := 1) rfl (sub_cons (t := 2) rfl (sub_cons (t := 3) rfl (sub_cons (t := 4) rfl (sub_cons (t := 5) rfl (sub_cons (t := 13) rfl (sub_cons (t := 14) rfl (sub_nil _))))))))) ?_
    refine cw_skip ?_
    refine pw_block_normal ?_
    refine pw_then ?_
    refine cw_region ?_
    refine lw_move rfl (by decide) ?_
    refine lw_inc rfl (by omega) (by decide) ?_
    refine lw_assign rfl (by decide) ?_
    refine lw_nil ?_
    exact he1 _ _ trivial (by omega) rfl rfl (sub_cons (t := 0) rfl (sub_cons (t := 1) rfl (sub_cons (t := 2) rfl (sub_cons (t := 3) rfl (sub_cons (t := 4) rfl (sub_cons (t := 5) rfl (sub_nil _)))))))
  · clear ha
    refine cw_seq ?_
    refine cw_seq ?_
    refine cw_region ?_
    refine lw_move rfl (by decide) ?_
    refine lw_move rfl (by decide) ?_
    refine lw_lenSlice rfl Try.underlying22 (by decide) ?_
    refine lw_lss rfl rfl (by decide) ?_
    refine lw_nil ?_
    refine pw_then ?_
    refine cw_cond rfl (fun h => by have := of_decide_eq_true h; omega) (fun _ => ?_)
    refine cw_sub (sub_cons (t := 0) rfl (sub_cons (t := 1) rfl (sub_cons (t := 2) rfl (sub_cons (t := 3) rfl (sub_cons (t := 4) rfl (sub_cons (t := 5) rfl (sub_cons (t := 13) rfl (sub_cons (t := 14) rfl (sub_nil _))))))))) ?_
    refine cw_exit ?_
    refine pw_then_exit ?_
    refine pw_pass_exit hp1 ?_
    refine pw_block_exit ?_
    refine pw_then ?_
    refine cw_seq ?_
    refine cw_seq ?_
    refine cw_region ?_
    refine lw_move rfl (by decide) ?_
    refine lw_lenSlice rfl Try.underlying23 (by decide) ?_
    refine lw_gtr rfl (by decide) ?_
    refine lw_nil ?_
    refine pw_then ?_
    refine cw_cond rfl (fun _ => ?_) (fun h => ?_)
    · skip
      refine cw_seq ?_
      refine cw_region ?_
      refine lw_const (by decide) ?_
      refine lw_nil ?_
      refine pw_then ?_
      refine cw_ret ?_
      refine pw_then_ret ?_
      exact pw_result rfl rfl ⟨retB _, rfl⟩
    clear h
    refine cw_sub (sub_cons (t := 0) rfl (sub_cons (t := 1) rfl (sub_cons (t := 2) rfl (sub_cons (t := 3) rfl (sub_cons (t := 4) rfl (sub_cons (t := 5) rfl (sub_cons (t := 13) rfl (sub_nil _)))))))) ?_
    refine cw_skip ?_
    refine pw_then ?_
    refine cw_seq ?_
    refine cw_region ?_
    refine lw_move rfl (by decide) ?_
    refine lw_move rfl (by decide) ?_
    refine lw_lenSlice rfl Try.underlying23 (by decide) ?_
    refine lw_add rfl rfl (by decide) ?_
    refine lw_assign rfl (by decide) ?_
    refine lw_nil ?_
    refine pw_then ?_
    refine cw_seq ?_
    refine cw_seq ?_
    refine cw_region ?_
    refine lw_move rfl (by decide) ?_
    refine lw_gtr rfl (by decide) ?_
    refine lw_nil ?_
    refine pw_then ?_
    refine cw_cond rfl (fun _ => ?_) (fun h => ?_)
    · skip
      refine cw_seq ?_
      refine cw_region ?_
      refine lw_const (by decide) ?_
      refine lw_nil ?_
      refine pw_then ?_
      refine cw_ret ?_
      refine pw_then_ret ?_
      exact pw_result rfl rfl ⟨retB _, rfl⟩
    clear h
    refine cw_sub (sub_cons (t := 0) rfl (sub_cons (t := 1) rfl (sub_cons (t := 2) rfl (sub_cons (t := 3) rfl (sub_cons (t := 4) rfl (sub_cons (t := 5) rfl (sub_cons (t := 13) rfl (sub_nil _)))))))) ?_
    refine cw_skip ?_
    refine pw_then ?_
    refine cw_seq ?_
    refine cw_seq ?_
    refine cw_region ?_
    refine lw_const (by decide) ?_
    refine lw_nil ?_
    refine pw_then ?_
    refine cw_block ?_
    refine cw_loop (z := 13) (i := 15) (n := rn) (fun _ _ => True) (by decide) rfl rfl (sub_cons (t := 0) rfl (sub_cons (t := 1) rfl (sub_cons (t := 2) rfl (sub_cons (t := 3) rfl (sub_cons (t := 4) rfl (sub_cons (t := 5) rfl (sub_nil _))))))) trivial ?_
    intro q2 k2 hk2 _ K2 hp2 he2
    by_cases hlt2 : k2 < rn
    · obtain ⟨b2, o2, hao2, _, hat2⟩ := ga (by omega)
      have hc2 := hat2 k2 hlt2
      generalize R k2 = d2 at hc2
      obtain ⟨bo2, ti2, sa2, sn2, sc2, S2, ta2, tn2, tc2, T2⟩ := d2
      obtain ⟨x02, x12, x22, x32, y02, y12, s02, s12⟩ := hc2
      simp only at x02 x12 x22 x32 y02 y12 s02 s12
      obtain ⟨k12, k22, -, k42⟩ := s02
      obtain ⟨d12, d22, -, d42⟩ := s12
      subst hao2
      clear hat2 ga
      refine cw_seq ?_
      refine cw_seq ?_
      refine cw_region ?_
      refine lw_move rfl (by decide) ?_
      refine lw_move rfl (by decide) ?_
      refine lw_lenSlice rfl Try.underlying23 (by decide) ?_
      refine lw_lss rfl rfl (by decide) ?_
      refine lw_nil ?_
      refine pw_then ?_
      refine cw_cond rfl (fun _ => ?_) (fun h => by have := of_decide_eq_false h; omega)
      refine cw_sub (sub_cons (t := 0) rfl (sub_cons (t := 1) rfl (sub_cons (t := 2) rfl (sub_cons (t := 3) rfl (sub_cons (t := 4) rfl (sub_cons (t := 5) rfl (sub_cons (t := 13) rfl (sub_cons (t := 15) rfl (sub_nil _))))))))) ?_
      refine cw_skip ?_
      refine pw_then ?_
      refine cw_seq ?_
      refine cw_block ?_
      refine cw_seq ?_
      refine cw_seq ?_
      refine cw_region ?_
      refine lw_move rfl (by decide) ?_
      refine lw_move rfl (by decide) ?_
      refine i23 rfl rfl (by assumption) (by decide) ?_
      refine f34_0 rfl (by decide) ?_
      refine lw_load rfl ag9 (by assumption) (by decide) ?_
      refine lw_lenString rfl Try.underlying9 (by decide) ?_
      refine lw_gtr rfl (by decide) ?_
      refine lw_nil ?_
      refine pw_then ?_
      refine cw_cond rfl (fun _ => ?_) (fun h => ?_)
      · skip
        refine cw_seq ?_
        refine cw_region ?_
        refine lw_const (by decide) ?_
        refine lw_nil ?_
        refine pw_then ?_
        refine cw_ret ?_
        refine pw_then_ret ?_
        refine pw_block_ret ?_
        refine pw_then_ret ?_
        refine pw_pass_ret hp2 ?_
        refine pw_block_ret ?_
        refine pw_then_ret ?_
        exact pw_result rfl rfl ⟨retB _, rfl⟩
      clear h
      refine cw_sub (sub_cons (t := 0) rfl (sub_cons (t := 1) rfl (sub_cons (t := 2) rfl (sub_cons (t := 3) rfl (sub_cons (t := 4) rfl (sub_cons (t := 5) rfl (sub_cons (t := 13) rfl (sub_cons (t := 15) rfl (sub_nil _))))))))) ?_
      refine cw_skip ?_
      refine pw_then ?_
      refine cw_seq ?_
      refine cw_region ?_
      refine lw_move rfl (by decide) ?_
      refine lw_move rfl (by decide) ?_
      refine lw_move rfl (by decide) ?_
      refine i23 rfl rfl (by assumption) (by decide) ?_
      refine f34_0 rfl (by decide) ?_
      refine lw_load rfl ag9 (by assumption) (by decide) ?_
      refine lw_lenString rfl Try.underlying9 (by decide) ?_
      refine lw_add rfl rfl (by decide) ?_
      refine lw_assign rfl (by decide) ?_
      refine lw_nil ?_
      refine pw_then ?_
      refine cw_seq ?_
      refine cw_seq ?_
      refine cw_region ?_
      refine lw_move rfl (by decide) ?_
      refine lw_gtr rfl (by decide) ?_
      refine lw_nil ?_
      refine pw_then ?_
      refine cw_cond rfl (fun _ => ?_) (fun h => ?_)
      · skip
        refine cw_seq ?_
        refine cw_region ?_
        refine lw_const (by decide) ?_
        refine lw_nil ?_
        refine pw_then ?_
        refine cw_ret ?_
        refine pw_then_ret ?_
        refine pw_block_ret ?_
        refine pw_then_ret ?_
        refine pw_pass_ret hp2 ?_
        refine pw_block_ret ?_
        refine pw_then_ret ?_
        exact pw_result rfl rfl ⟨retB _, rfl⟩
      clear h
      refine cw_sub (sub_cons (t := 0) rfl (sub_cons (t := 1) rfl (sub_cons (t := 2) rfl (sub_cons (t := 3) rfl (sub_cons (t := 4) rfl (sub_cons (t := 5) rfl (sub_cons (t := 13) rfl (sub_cons (t := 15) rfl (sub_nil _))))))))) ?_
      refine cw_skip ?_
      refine pw_then ?_
      refine cw_seq ?_
      refine cw_seq ?_
      refine cw_region ?_
      refine lw_move rfl (by decide) ?_
      refine lw_move rfl (by decide) ?_
      refine i23 rfl rfl (by assumption) (by decide) ?_
      refine f34_1 rfl (by decide) ?_
      refine lw_load rfl ag9 (by assumption) (by decide) ?_
      refine lw_lenString rfl Try.underlying9 (by decide) ?_
      refine lw_gtr rfl (by decide) ?_
      refine lw_nil ?_
      refine pw_then ?_
      refine cw_cond rfl (fun _ => ?_) (fun h => ?_)
      · skip
        refine cw_seq ?_
        refine cw_region ?_
        refine lw_const (by decide) ?_
        refine lw_nil ?_
        refine pw_then ?_
        refine cw_ret ?_
        refine pw_then_ret ?_
        refine pw_block_ret ?_
        refine pw_then_ret ?_
        refine pw_pass_ret hp2 ?_
        refine pw_block_ret ?_
        refine pw_then_ret ?_
        exact pw_result rfl rfl ⟨retB _, rfl⟩
      clear h
      refine cw_sub (sub_cons (t := 0) rfl (sub_cons (t := 1) rfl (sub_cons (t := 2) rfl (sub_cons (t := 3) rfl (sub_cons (t := 4) rfl (sub_cons (t := 5) rfl (sub_cons (t := 13) rfl (sub_cons (t := 15) rfl (sub_nil _))))))))) ?_
      refine cw_skip ?_
      refine pw_then ?_
      refine cw_seq ?_
      refine cw_region ?_
      refine lw_move rfl (by decide) ?_
      refine lw_move rfl (by decide) ?_
      refine lw_move rfl (by decide) ?_
      refine i23 rfl rfl (by assumption) (by decide) ?_
      refine f34_1 rfl (by decide) ?_
      refine lw_load rfl ag9 (by assumption) (by decide) ?_
      refine lw_lenString rfl Try.underlying9 (by decide) ?_
      refine lw_add rfl rfl (by decide) ?_
      refine lw_assign rfl (by decide) ?_
      refine lw_nil ?_
      refine pw_then ?_
      refine cw_seq ?_
      refine cw_seq ?_
      refine cw_region ?_
      refine lw_move rfl (by decide) ?_
      refine lw_gtr rfl (by decide) ?_
      refine lw_nil ?_
      refine pw_then ?_
      refine cw_cond rfl (fun _ => ?_) (fun h => ?_)
      · skip
        refine cw_seq ?_
        refine cw_region ?_
        refine lw_const (by decide) ?_
        refine lw_nil ?_
        refine pw_then ?_
        refine cw_ret ?_
        refine pw_then_ret ?_
        refine pw_block_ret ?_
        refine pw_then_ret ?_
        refine pw_pass_ret hp2 ?_
        refine pw_block_ret ?_
        refine pw_then_ret ?_
        exact pw_result rfl rfl ⟨retB _, rfl⟩
      clear h
      refine cw_sub (sub_cons (t := 0) rfl (sub_cons (t := 1) rfl (sub_cons (t := 2) rfl (sub_cons (t := 3) rfl (sub_cons (t := 4) rfl (sub_cons (t := 5) rfl (sub_cons (t := 13) rfl (sub_cons (t := 15) rfl (sub_nil _))))))))) ?_
      refine cw_skip ?_
      refine pw_then ?_
      refine cw_seq ?_
      refine cw_seq ?_
      refine cw_region ?_
      refine lw_move rfl (by decide) ?_
      refine lw_move rfl (by decide) ?_
      refine i23 rfl rfl (by assumption) (by decide) ?_
      refine f34_2 rfl (by decide) ?_
      refine lw_load rfl ag31 (by assumption) (by decide) ?_
      refine lw_lenSlice rfl Try.underlying31 (by decide) ?_
      refine lw_gtr rfl (by decide) ?_
      refine lw_nil ?_
      refine pw_then ?_
      refine cw_cond rfl (fun _ => ?_) (fun h => ?_)
      · skip
        refine cw_seq ?_
        refine cw_region ?_
        refine lw_const (by decide) ?_
        refine lw_nil ?_
        refine pw_then ?_
        refine cw_ret ?_
        refine pw_then_ret ?_
        refine pw_block_ret ?_
        refine pw_then_ret ?_
        refine pw_pass_ret hp2 ?_
        refine pw_block_ret ?_
        refine pw_then_ret ?_
        exact pw_result rfl rfl ⟨retB _, rfl⟩
      clear h
      refine cw_sub (sub_cons (t := 0) rfl (sub_cons (t := 1) rfl (sub_cons (t := 2) rfl (sub_cons (t := 3) rfl (sub_cons (t := 4) rfl (sub_cons (t := 5) rfl (sub_cons (t := 13) rfl (sub_cons (t := 15) rfl (sub_nil _))))))))) ?_
      refine cw_skip ?_
      refine pw_then ?_
      refine cw_seq ?_
      refine cw_region ?_
      refine lw_move rfl (by decide) ?_
      refine lw_move rfl (by decide) ?_
      refine lw_move rfl (by decide) ?_
      refine i23 rfl rfl (by assumption) (by decide) ?_
      refine f34_2 rfl (by decide) ?_
      refine lw_load rfl ag31 (by assumption) (by decide) ?_
      refine lw_lenSlice rfl Try.underlying31 (by decide) ?_
      refine lw_add rfl rfl (by decide) ?_
      refine lw_assign rfl (by decide) ?_
      refine lw_nil ?_
      refine pw_then ?_
      refine cw_seq ?_
      refine cw_seq ?_
      refine cw_region ?_
      refine lw_move rfl (by decide) ?_
      refine lw_gtr rfl (by decide) ?_
      refine lw_nil ?_
      refine pw_then ?_
      refine cw_cond rfl (fun _ => ?_) (fun h => ?_)
      · skip
        refine cw_seq ?_
        refine cw_region ?_
        refine lw_const (by decide) ?_
        refine lw_nil ?_
        refine pw_then ?_
        refine cw_ret ?_
        refine pw_then_ret ?_
        refine pw_block_ret ?_
        refine pw_then_ret ?_
        refine pw_pass_ret hp2 ?_
        refine pw_block_ret ?_
        refine pw_then_ret ?_
        exact pw_result rfl rfl ⟨retB _, rfl⟩
      clear h
      refine cw_sub (sub_cons (t := 0) rfl (sub_cons (t := 1) rfl (sub_cons (t := 2) rfl (sub_cons (t := 3) rfl (sub_cons (t := 4) rfl (sub_cons (t := 5) rfl (sub_cons (t := 13) rfl (sub_cons (t := 15) rfl (sub_nil _))))))))) ?_
      refine cw_skip ?_
      refine pw_then ?_
      refine cw_seq ?_
      refine cw_seq ?_
      refine cw_region ?_
      refine lw_const (by decide) ?_
      refine lw_nil ?_
      refine pw_then ?_
      refine cw_block ?_
      refine cw_loop (z := 13) (i := 16) (n := sn2) (fun _ _ => True) (by decide) rfl rfl (sub_cons (t := 0) rfl (sub_cons (t := 1) rfl (sub_cons (t := 2) rfl (sub_cons (t := 3) rfl (sub_cons (t := 4) rfl (sub_cons (t := 5) rfl (sub_cons (t := 15) rfl (sub_nil _)))))))) trivial ?_
      intro q3 k3 hk3 _ K3 hp3 he3
      by_cases hlt3 : k3 < sn2
      · obtain ⟨b3, o3, hao3, _, hat3⟩ := k42 (by omega)
        have hc3 := hat3 k3 hlt3
        generalize S2 k3 = d3 at hc3
        obtain ⟨dx3, dy3⟩ := d3
        obtain ⟨x03, x13, y03, y13⟩ := hc3
        simp only at x03 x13 y03 y13
        subst hao3
        clear hat3 k42
        refine cw_seq ?_
        refine cw_seq ?_
        refine cw_region ?_
        refine lw_move rfl (by decide) ?_
        refine lw_move rfl (by decide) ?_
        refine lw_move rfl (by decide) ?_
        refine i23 rfl rfl (by assumption) (by decide) ?_
        refine f34_2 rfl (by decide) ?_
        refine lw_load rfl ag31 (by assumption) (by decide) ?_
        refine lw_lenSlice rfl Try.underlying31 (by decide) ?_
        refine lw_lss rfl rfl (by decide) ?_
        refine lw_nil ?_
        refine pw_then ?_
        refine cw_cond rfl (fun _ => ?_) (fun h => by have := of_decide_eq_false h; omega)
        refine cw_sub (sub_cons (t := 0) rfl (sub_cons (t := 1) rfl (sub_cons (t := 2) rfl (sub_cons (t := 3) rfl (sub_cons (t := 4) rfl (sub_cons (t := 5) rfl (sub_cons (t := 15) rfl (sub_cons (t := 13) rfl (sub_cons (t := 16) rfl (sub_nil _)))))))))) ?_
        refine cw_skip ?_
        refine pw_then ?_
        refine cw_seq ?_
        refine cw_block ?_
        refine cw_seq ?_
        refine cw_seq ?_
        refine cw_region ?_
        refine lw_move rfl (by decide) ?_
        refine lw_move rfl (by decide) ?_
        refine i23 rfl rfl (by assumption) (by decide) ?_
        refine f34_2 rfl (by decide) ?_
        refine lw_load rfl ag31 (by assumption) (by decide) ?_
        refine lw_move rfl (by decide) ?_
        refine i31 rfl rfl (by assumption) (by decide) ?_
        refine f72_0 rfl (by decide) ?_
        refine lw_load rfl ag9 (by assumption) (by decide) ?_
        refine lw_lenString rfl Try.underlying9 (by decide) ?_
        refine lw_gtr rfl (by decide) ?_
        refine lw_nil ?_
        refine pw_then ?_
        refine cw_cond rfl (fun _ => ?_) (fun h => ?_)
        · skip
          refine cw_seq ?_
          refine cw_region ?_
          refine lw_const (by decide) ?_
          refine lw_nil ?_
          refine pw_then ?_
          refine cw_ret ?_
          refine pw_then_ret ?_
          refine pw_block_ret ?_
          refine pw_then_ret ?_
          refine pw_pass_ret hp3 ?_
          refine pw_block_ret ?_
          refine pw_then_ret ?_
          refine pw_block_ret ?_
          refine pw_then_ret ?_
          refine pw_pass_ret hp2 ?_
          refine pw_block_ret ?_
          refine pw_then_ret ?_
          exact pw_result rfl rfl ⟨retB _, rfl⟩
        clear h
        refine cw_sub (sub_cons (t := 0) rfl (sub_cons (t := 1) rfl (sub_cons (t := 2) rfl (sub_cons (t := 3) rfl (sub_cons (t := 4) rfl (sub_cons (t := 5) rfl (sub_cons (t := 15) rfl (sub_cons (t := 13) rfl (sub_cons (t := 16) rfl (sub_nil _)))))))))) ?_
        refine cw_skip ?_
        refine pw_then ?_
        refine cw_seq ?_
        refine cw_region ?_
        refine lw_move rfl (by decide) ?_
        refine lw_move rfl (by decide) ?_
        refine lw_move rfl (by decide) ?_
        refine i23 rfl rfl (by assumption) (by decide) ?_
        refine f34_2 rfl (by decide) ?_
        refine lw_load rfl ag31 (by assumption) (by decide) ?_
        refine lw_move rfl (by decide) ?_
        refine i31 rfl rfl (by assumption) (by decide) ?_
        refine f72_0 rfl (by decide) ?_
        refine lw_load rfl ag9 (by assumption) (by decide) ?_
        refine lw_lenString rfl Try.underlying9 (by decide) ?_
        refine lw_add rfl rfl (by decide) ?_
        refine lw_assign rfl (by decide) ?_
        refine lw_nil ?_
        refine pw_then ?_
        refine cw_seq ?_
        refine cw_seq ?_
        refine cw_region ?_
        refine lw_move rfl (by decide) ?_
        refine lw_gtr rfl (by decide) ?_
        refine lw_nil ?_
        refine pw_then ?_
        refine cw_cond rfl (fun _ => ?_) (fun h => ?_)
        · skip
          refine cw_seq ?_
          refine cw_region ?_
          refine lw_const (by decide) ?_
          refine lw_nil ?_
          refine pw_then ?_
          refine cw_ret ?_
          refine pw_then_ret ?_
          refine pw_block_ret ?_
          refine pw_then_ret ?_
          refine pw_pass_ret hp3 ?_
          refine pw_block_ret ?_
          refine pw_then_ret ?_
          refine pw_block_ret ?_
          refine pw_then_ret ?_
          refine pw_pass_ret hp2 ?_
          refine pw_block_ret ?_
          refine pw_then_ret ?_
          exact pw_result rfl rfl ⟨retB _, rfl⟩
        clear h
        refine cw_sub (sub_cons (t := 0) rfl (sub_cons (t := 1) rfl (sub_cons (t := 2) rfl (sub_cons (t := 3) rfl (sub_cons (t := 4) rfl (sub_cons (t := 5) rfl (sub_cons (t := 15) rfl (sub_cons (t := 13) rfl (sub_cons (t := 16) rfl (sub_nil _)))))))))) ?_
        refine cw_skip ?_
        refine pw_then ?_
        refine cw_seq ?_
        refine cw_seq ?_
        refine cw_region ?_
        refine lw_move rfl (by decide) ?_
        refine lw_move rfl (by decide) ?_
        refine i23 rfl rfl (by assumption) (by decide) ?_
        refine f34_2 rfl (by decide) ?_
        refine lw_load rfl ag31 (by assumption) (by decide) ?_
        refine lw_move rfl (by decide) ?_
        refine i31 rfl rfl (by assumption) (by decide) ?_
        refine f72_1 rfl (by decide) ?_
        refine lw_load rfl ag9 (by assumption) (by decide) ?_
        refine lw_lenString rfl Try.underlying9 (by decide) ?_
        refine lw_gtr rfl (by decide) ?_
        refine lw_nil ?_
        refine pw_then ?_
        refine cw_cond rfl (fun _ => ?_) (fun h => ?_)
        · skip
          refine cw_seq ?_
          refine cw_region ?_
          refine lw_const (by decide) ?_
          refine lw_nil ?_
          refine pw_then ?_
          refine cw_ret ?_
          refine pw_then_ret ?_
          refine pw_block_ret ?_
          refine pw_then_ret ?_
          refine pw_pass_ret hp3 ?_
          refine pw_block_ret ?_
          refine pw_then_ret ?_
          refine pw_block_ret ?_
          refine pw_then_ret ?_
          refine pw_pass_ret hp2 ?_
          refine pw_block_ret ?_
          refine pw_then_ret ?_
          exact pw_result rfl rfl ⟨retB _, rfl⟩
        clear h
        refine cw_sub (sub_cons (t := 0) rfl (sub_cons (t := 1) rfl (sub_cons (t := 2) rfl (sub_cons (t := 3) rfl (sub_cons (t := 4) rfl (sub_cons (t := 5) rfl (sub_cons (t := 15) rfl (sub_cons (t := 13) rfl (sub_cons (t := 16) rfl (sub_nil _)))))))))) ?_
        refine cw_skip ?_
        refine pw_then ?_
        refine cw_seq ?_
        refine cw_region ?_
        refine lw_move rfl (by decide) ?_
        refine lw_move rfl (by decide) ?_
        refine lw_move rfl (by decide) ?_
        refine i23 rfl rfl (by assumption) (by decide) ?_
        refine f34_2 rfl (by decide) ?_
        refine lw_load rfl ag31 (by assumption) (by decide) ?_
        refine lw_move rfl (by decide) ?_
        refine i31 rfl rfl (by assumption) (by decide) ?_
        refine f72_1 rfl (by decide) ?_
        refine lw_load rfl ag9 (by assumption) (by decide) ?_
        refine lw_lenString rfl Try.underlying9 (by decide) ?_
        refine lw_add rfl rfl (by decide) ?_
        refine lw_assign rfl (by decide) ?_
        refine lw_nil ?_
        refine pw_then ?_
        refine cw_seq ?_
        refine cw_region ?_
        refine lw_move rfl (by decide) ?_
        refine lw_gtr rfl (by decide) ?_
        refine lw_nil ?_
        refine pw_then ?_
        refine cw_cond rfl (fun _ => ?_) (fun h => ?_)
        · skip
          refine cw_seq ?_
          refine cw_region ?_
          refine lw_const (by decide) ?_
          refine lw_nil ?_
          refine pw_then ?_
          refine cw_ret ?_
          refine pw_block_ret ?_
          refine pw_then_ret ?_
          refine pw_pass_ret hp3 ?_
          refine pw_block_ret ?_
          refine pw_then_ret ?_
          refine pw_block_ret ?_
          refine pw_then_ret ?_
          refine pw_pass_ret hp2 ?_
          refine pw_block_ret ?_
          refine pw_then_ret ?_
          exact pw_result rfl rfl ⟨retB _, rfl⟩
        clear h
        refine cw_sub (sub_cons (t := 0) rfl (sub_cons (t := 1) rfl (sub_cons (t := 2) rfl (sub_cons (t := 3) rfl (sub_cons (t := 4) rfl (sub_cons (t := 5) rfl (sub_cons (t := 15) rfl (sub_cons (t := 13) rfl (sub_cons (t := 16) rfl (sub_nil _)))))))))) ?_
        refine cw_skip ?_
        refine pw_block_normal ?_
        refine pw_then ?_
        refine cw_region ?_
        refine lw_move rfl (by decide) ?_
        refine lw_inc rfl (by omega) (by decide) ?_
        refine lw_assign rfl (by decide) ?_
        refine lw_nil ?_
        exact he3 _ _ trivial (by omega) rfl rfl (sub_cons (t := 0) rfl (sub_cons (t := 1) rfl (sub_cons (t := 2) rfl (sub_cons (t := 3) rfl (sub_cons (t := 4) rfl (sub_cons (t := 5) rfl (sub_cons (t := 15) rfl (sub_nil _))))))))
      · clear k42
        refine cw_seq ?_
        refine cw_seq ?_
        refine cw_region ?_
        refine lw_move rfl (by decide) ?_
        refine lw_move rfl (by decide) ?_
        refine lw_move rfl (by decide) ?_
        refine i23 rfl rfl (by assumption) (by decide) ?_
        refine f34_2 rfl (by decide) ?_
        refine lw_load rfl ag31 (by assumption) (by decide) ?_
        refine lw_lenSlice rfl Try.underlying31 (by decide) ?_
        refine lw_lss rfl rfl (by decide) ?_
        refine lw_nil ?_
        refine pw_then ?_
        refine cw_cond rfl (fun h => by have := of_decide_eq_true h; omega) (fun _ => ?_)
        refine cw_sub (sub_cons (t := 0) rfl (sub_cons (t := 1) rfl (sub_cons (t := 2) rfl (sub_cons (t := 3) rfl (sub_cons (t := 4) rfl (sub_cons (t := 5) rfl (sub_cons (t := 15) rfl (sub_cons (t := 13) rfl (sub_cons (t := 16) rfl (sub_nil _)))))))))) ?_
        refine cw_exit ?_
        refine pw_then_exit ?_
        refine pw_pass_exit hp3 ?_
        refine pw_block_exit ?_
        refine pw_then ?_
        refine cw_seq ?_
        refine cw_seq ?_
        refine cw_region ?_
        refine lw_move rfl (by decide) ?_
        refine lw_move rfl (by decide) ?_
        refine i23 rfl rfl (by assumption) (by decide) ?_
        refine f34_3 rfl (by decide) ?_
        refine lw_load rfl ag32 (by assumption) (by decide) ?_
        refine lw_lenSlice rfl Try.underlying32 (by decide) ?_
        refine lw_gtr rfl (by decide) ?_
        refine lw_nil ?_
        refine pw_then ?_
        refine cw_cond rfl (fun _ => ?_) (fun h => ?_)
        · skip
          refine cw_seq ?_
          refine cw_region ?_
          refine lw_const (by decide) ?_
          refine lw_nil ?_
          refine pw_then ?_
          refine cw_ret ?_
          refine pw_then_ret ?_
          refine pw_block_ret ?_
          refine pw_then_ret ?_
          refine pw_pass_ret hp2 ?_
          refine pw_block_ret ?_
          refine pw_then_ret ?_
          exact pw_result rfl rfl ⟨retB _, rfl⟩
        clear h
        refine cw_sub (sub_cons (t := 0) rfl (sub_cons (t := 1) rfl (sub_cons (t := 2) rfl (sub_cons (t := 3) rfl (sub_cons (t := 4) rfl (sub_cons (t := 5) rfl (sub_cons (t := 13) rfl (sub_cons (t := 15) rfl (sub_nil _))))))))) ?_
        refine cw_skip ?_
        refine pw_then ?_
        refine cw_seq ?_
        refine cw_region ?_
        refine lw_move rfl (by decide) ?_
        refine lw_move rfl (by decide) ?_
        refine lw_move rfl (by decide) ?_
        refine i23 rfl rfl (by assumption) (by decide) ?_
        refine f34_3 rfl (by decide) ?_
        refine lw_load rfl ag32 (by assumption) (by decide) ?_
        refine lw_lenSlice rfl Try.underlying32 (by decide) ?_
        refine lw_add rfl rfl (by decide) ?_
        refine lw_assign rfl (by decide) ?_
        refine lw_nil ?_
        refine pw_then ?_
        refine cw_seq ?_
        refine cw_seq ?_
        refine cw_region ?_
        refine lw_move rfl (by decide) ?_
        refine lw_gtr rfl (by decide) ?_
        refine lw_nil ?_
        refine pw_then ?_
        refine cw_cond rfl (fun _ => ?_) (fun h => ?_)
        · skip
          refine cw_seq ?_
          refine cw_region ?_
          refine lw_const (by decide) ?_
          refine lw_nil ?_
          refine pw_then ?_
          refine cw_ret ?_
          refine pw_then_ret ?_
          refine pw_block_ret ?_
          refine pw_then_ret ?_
          refine pw_pass_ret hp2 ?_
          refine pw_block_ret ?_
          refine pw_then_ret ?_
          exact pw_result rfl rfl ⟨retB _, rfl⟩
        clear h
        refine cw_sub (sub_cons (t := 0) rfl (sub_cons (t := 1) rfl (sub_cons (t := 2) rfl (sub_cons (t := 3) rfl (sub_cons (t := 4) rfl (sub_cons (t := 5) rfl (sub_cons (t := 13) rfl (sub_cons (t := 15) rfl (sub_nil _))))))))) ?_
        refine cw_skip ?_
        refine pw_then ?_
        refine cw_seq ?_
        refine cw_region ?_
        refine lw_const (by decide) ?_
        refine lw_nil ?_
        refine pw_then ?_
        refine cw_block ?_
        refine cw_loop (z := 13) (i := 17) (n := tn2) (fun _ _ => True) (by decide) rfl rfl (sub_cons (t := 0) rfl (sub_cons (t := 1) rfl (sub_cons (t := 2) rfl (sub_cons (t := 3) rfl (sub_cons (t := 4) rfl (sub_cons (t := 5) rfl (sub_cons (t := 15) rfl (sub_nil _)))))))) trivial ?_
        intro q4 k4 hk4 _ K4 hp4 he4
        by_cases hlt4 : k4 < tn2
        · obtain ⟨b4, o4, hao4, _, hat4⟩ := d42 (by omega)
          have hc4 := hat4 k4 hlt4
          generalize T2 k4 = d4 at hc4
          obtain ⟨ka4, kn4, kc4, K04, ca4, cn4, cc4, C4⟩ := d4
          obtain ⟨x04, x14, s04, s14⟩ := hc4
          simp only at x04 x14 s04 s14
          obtain ⟨k14, k24, -, k44, k54⟩ := s04
          obtain ⟨d14, d24, -, d44⟩ := s14
          subst hao4
          clear hat4 d42
          refine cw_seq ?_
          refine cw_seq ?_
          refine cw_region ?_
          refine lw_move rfl (by decide) ?_
          refine lw_move rfl (by decide) ?_
          refine lw_move rfl (by decide) ?_
          refine i23 rfl rfl (by assumption) (by decide) ?_
          refine f34_3 rfl (by decide) ?_
          refine lw_load rfl ag32 (by assumption) (by decide) ?_
          refine lw_lenSlice rfl Try.underlying32 (by decide) ?_
          refine lw_lss rfl rfl (by decide) ?_
          refine lw_nil ?_
          refine pw_then ?_
          refine cw_cond rfl (fun _ => ?_) (fun h => by have := of_decide_eq_false h; omega)
          refine cw_sub (sub_cons (t := 0) rfl (sub_cons (t := 1) rfl (sub_cons (t := 2) rfl (sub_cons (t := 3) rfl (sub_cons (t := 4) rfl (sub_cons (t := 5) rfl (sub_cons (t := 15) rfl (sub_cons (t := 13) rfl (sub_cons (t := 17) rfl (sub_nil _)))))))))) ?_
          refine cw_skip ?_
          refine pw_then ?_
          refine cw_seq ?_
          refine cw_block ?_
          refine cw_seq ?_
          refine cw_seq ?_
          refine cw_region ?_
          refine lw_move rfl (by decide) ?_
          refine lw_move rfl (by decide) ?_
          refine i23 rfl rfl (by assumption) (by decide) ?_
          refine f34_3 rfl (by decide) ?_
          refine lw_load rfl ag32 (by assumption) (by decide) ?_
          refine lw_move rfl (by decide) ?_
          refine i32 rfl rfl (by assumption) (by decide) ?_
          refine f54_0 rfl (by decide) ?_
          refine lw_load rfl ag51 (by assumption) (by decide) ?_
          refine lw_lenSlice rfl Try.underlying51 (by decide) ?_
          refine lw_gtr rfl (by decide) ?_
          refine lw_nil ?_
          refine pw_then ?_
          refine cw_cond rfl (fun _ => ?_) (fun h => ?_)
          · skip
            refine cw_seq ?_
            refine cw_region ?_
            refine lw_const (by decide) ?_
            refine lw_nil ?_
            refine pw_then ?_
            refine cw_ret ?_
            refine pw_then_ret ?_
            refine pw_block_ret ?_
            refine pw_then_ret ?_
            refine pw_pass_ret hp4 ?_
            refine pw_block_ret ?_
            refine pw_block_ret ?_
            refine pw_then_ret ?_
            refine pw_pass_ret hp2 ?_
            refine pw_block_ret ?_
            refine pw_then_ret ?_
            exact pw_result rfl rfl ⟨retB _, rfl⟩
          clear h
          refine cw_sub (sub_cons (t := 0) rfl (sub_cons (t := 1) rfl (sub_cons (t := 2) rfl (sub_cons (t := 3) rfl (sub_cons (t := 4) rfl (sub_cons (t := 5) rfl (sub_cons (t := 15) rfl (sub_cons (t := 13) rfl (sub_cons (t := 17) rfl (sub_nil _)))))))))) ?_
          refine cw_skip ?_
          refine pw_then ?_
          refine cw_seq ?_
          refine cw_region ?_
          refine lw_move rfl (by decide) ?_
          refine lw_move rfl (by decide) ?_
          refine lw_move rfl (by decide) ?_
          refine i23 rfl rfl (by assumption) (by decide) ?_
          refine f34_3 rfl (by decide) ?_
          refine lw_load rfl ag32 (by assumption) (by decide) ?_
          refine lw_move rfl (by decide) ?_
          refine i32 rfl rfl (by assumption) (by decide) ?_
          refine f54_0 rfl (by decide) ?_
          refine lw_load rfl ag51 (by assumption) (by decide) ?_
          refine lw_lenSlice rfl Try.underlying51 (by decide) ?_
          refine lw_add rfl rfl (by decide) ?_
          refine lw_assign rfl (by decide) ?_
          refine lw_nil ?_
          refine pw_then ?_
          refine cw_seq ?_
          refine cw_seq ?_
          refine cw_region ?_
          refine lw_move rfl (by decide) ?_
          refine lw_gtr rfl (by decide) ?_
          refine lw_nil ?_
          refine pw_then ?_
          refine cw_cond rfl (fun _ => ?_) (fun h => ?_)
          · skip
            refine cw_seq ?_
            refine cw_region ?_
            refine lw_const (by decide) ?_
            refine lw_nil ?_
            refine pw_then ?_
            refine cw_ret ?_
            refine pw_then_ret ?_
            refine pw_block_ret ?_
            refine pw_then_ret ?_
            refine pw_pass_ret hp4 ?_
            refine pw_block_ret ?_
            refine pw_block_ret ?_
            refine pw_then_ret ?_
            refine pw_pass_ret hp2 ?_
            refine pw_block_ret ?_
            refine pw_then_ret ?_
            exact pw_result rfl rfl ⟨retB _, rfl⟩
          clear h
          refine cw_sub (sub_cons (t := 0) rfl (sub_cons (t := 1) rfl (sub_cons (t := 2) rfl (sub_cons (t := 3) rfl (sub_cons (t := 4) rfl (sub_cons (t := 5) rfl (sub_cons (t := 15) rfl (sub_cons (t := 13) rfl (sub_cons (t := 17) rfl (sub_nil _)))))))))) ?_
          refine cw_skip ?_
          refine pw_then ?_
          refine cw_seq ?_
          refine cw_seq ?_
          refine cw_region ?_
          refine lw_const (by decide) ?_
          refine lw_nil ?_
          refine pw_then ?_
          refine cw_block ?_
          refine cw_loop (z := 13) (i := 18) (n := kn4) (fun _ _ => True) (by decide) rfl rfl (sub_cons (t := 0) rfl (sub_cons (t := 1) rfl (sub_cons (t := 2) rfl (sub_cons (t := 3) rfl (sub_cons (t := 4) rfl (sub_cons (t := 5) rfl (sub_cons (t := 15) rfl (sub_cons (t := 17) rfl (sub_nil _))))))))) trivial ?_
          intro q5 k5 hk5 _ K5 hp5 he5
          by_cases hlt5 : k5 < kn4
          · obtain ⟨b5, o5, hao5, _, hat5⟩ := k44 (by omega)
            have hc5 := hat5 k5 hlt5
            have hs5 := k54 k5 hlt5
            subst hao5
            clear hat5 k44 k54
            refine cw_seq ?_
            refine cw_seq ?_
            refine cw_region ?_
            refine lw_move rfl (by decide) ?_
            refine lw_move rfl (by decide) ?_
            refine lw_move rfl (by decide) ?_
            refine i23 rfl rfl (by assumption) (by decide) ?_
            refine f34_3 rfl (by decide) ?_
            refine lw_load rfl ag32 (by assumption) (by decide) ?_
            refine lw_move rfl (by decide) ?_
            refine i32 rfl rfl (by assumption) (by decide) ?_
            refine f54_0 rfl (by decide) ?_
            refine lw_load rfl ag51 (by assumption) (by decide) ?_
            refine lw_lenSlice rfl Try.underlying51 (by decide) ?_
            refine lw_lss rfl rfl (by decide) ?_
            refine lw_nil ?_
            refine pw_then ?_
            refine cw_cond rfl (fun _ => ?_) (fun h => by have := of_decide_eq_false h; omega)
            refine cw_sub (sub_cons (t := 0) rfl (sub_cons (t := 1) rfl (sub_cons (t := 2) rfl (sub_cons (t := 3) rfl (sub_cons (t := 4) rfl (sub_cons (t := 5) rfl (sub_cons (t := 15) rfl (sub_cons (t := 17) rfl (sub_cons (t := 13) rfl (sub_cons (t := 18) rfl (sub_nil _))))))))))) ?_
            refine cw_skip ?_
            refine pw_then ?_
            refine cw_seq ?_
            refine cw_block ?_
            refine cw_seq ?_
            refine cw_seq ?_
            refine cw_region ?_
            refine lw_move rfl (by decide) ?_
            refine lw_move rfl (by decide) ?_
            refine i23 rfl rfl (by assumption) (by decide) ?_
            refine f34_3 rfl (by decide) ?_
            refine lw_load rfl ag32 (by assumption) (by decide) ?_
            refine lw_move rfl (by decide) ?_
            refine i32 rfl rfl (by assumption) (by decide) ?_
            refine f54_0 rfl (by decide) ?_
            refine lw_load rfl ag51 (by assumption) (by decide) ?_
            refine lw_move rfl (by decide) ?_
            refine i51 rfl rfl (by assumption) (by decide) ?_
            refine lw_load rfl ag9 (by assumption) (by decide) ?_
            refine lw_lenString rfl Try.underlying9 (by decide) ?_
            refine lw_gtr rfl (by decide) ?_
            refine lw_nil ?_
            refine pw_then ?_
            refine cw_cond rfl (fun _ => ?_) (fun h => ?_)
            · skip
              refine cw_seq ?_
              refine cw_region ?_
              refine lw_const (by decide) ?_
              refine lw_nil ?_
              refine pw_then ?_
              refine cw_ret ?_
              refine pw_then_ret ?_
              refine pw_block_ret ?_
              refine pw_then_ret ?_
              refine pw_pass_ret hp5 ?_
              refine pw_block_ret ?_
              refine pw_then_ret ?_
              refine pw_block_ret ?_
              refine pw_then_ret ?_
              refine pw_pass_ret hp4 ?_
              refine pw_block_ret ?_
              refine pw_block_ret ?_
              refine pw_then_ret ?_
              refine pw_pass_ret hp2 ?_
              refine pw_block_ret ?_
              refine pw_then_ret ?_
              exact pw_result rfl rfl ⟨retB _, rfl⟩
            clear h
            refine cw_sub (sub_cons (t := 0) rfl (sub_cons (t := 1) rfl (sub_cons (t := 2) rfl (sub_cons (t := 3) rfl (sub_cons (t := 4) rfl (sub_cons (t := 5) rfl (sub_cons (t := 15) rfl (sub_cons (t := 17) rfl (sub_cons (t := 13) rfl (sub_cons (t := 18) rfl (sub_nil _))))))))))) ?_
            refine cw_skip ?_
            refine pw_then ?_
            refine cw_seq ?_
            refine cw_region ?_
            refine lw_move rfl (by decide) ?_
            refine lw_move rfl (by decide) ?_
            refine lw_move rfl (by decide) ?_
            refine i23 rfl rfl (by assumption) (by decide) ?_
            refine f34_3 rfl (by decide) ?_
            refine lw_load rfl ag32 (by assumption) (by decide) ?_
            refine lw_move rfl (by decide) ?_
            refine i32 rfl rfl (by assumption) (by decide) ?_
            refine f54_0 rfl (by decide) ?_
            refine lw_load rfl ag51 (by assumption) (by decide) ?_
            refine lw_move rfl (by decide) ?_
            refine i51 rfl rfl (by assumption) (by decide) ?_
            refine lw_load rfl ag9 (by assumption) (by decide) ?_
            refine lw_lenString rfl Try.underlying9 (by decide) ?_
            refine lw_add rfl rfl (by decide) ?_
            refine lw_assign rfl (by decide) ?_
            refine lw_nil ?_
            refine pw_then ?_
            refine cw_seq ?_
            refine cw_region ?_
            refine lw_move rfl (by decide) ?_
            refine lw_gtr rfl (by decide) ?_
            refine lw_nil ?_
            refine pw_then ?_
            refine cw_cond rfl (fun _ => ?_) (fun h => ?_)
            · skip
              refine cw_seq ?_
              refine cw_region ?_
              refine lw_const (by decide) ?_
              refine lw_nil ?_
              refine pw_then ?_
              refine cw_ret ?_
              refine pw_block_ret ?_
              refine pw_then_ret ?_
              refine pw_pass_ret hp5 ?_
              refine pw_block_ret ?_
              refine pw_then_ret ?_
              refine pw_block_ret ?_
              refine pw_then_ret ?_
              refine pw_pass_ret hp4 ?_
              refine pw_block_ret ?_
              refine pw_block_ret ?_
              refine pw_then_ret ?_
              refine pw_pass_ret hp2 ?_
              refine pw_block_ret ?_
              refine pw_then_ret ?_
              exact pw_result rfl rfl ⟨retB _, rfl⟩
            clear h
            refine cw_sub (sub_cons (t := 0) rfl (sub_cons (t := 1) rfl (sub_cons (t := 2) rfl (sub_cons (t := 3) rfl (sub_cons (t := 4) rfl (sub_cons (t := 5) rfl (sub_cons (t := 15) rfl (sub_cons (t := 17) rfl (sub_cons (t := 13) rfl (sub_cons (t := 18) rfl (sub_nil _))))))))))) ?_
            refine cw_skip ?_
            refine pw_block_normal ?_
            refine pw_then ?_
            refine cw_region ?_
            refine lw_move rfl (by decide) ?_
            refine lw_inc rfl (by omega) (by decide) ?_
            refine lw_assign rfl (by decide) ?_
            refine lw_nil ?_
            exact he5 _ _ trivial (by omega) rfl rfl (sub_cons (t := 0) rfl (sub_cons (t := 1) rfl (sub_cons (t := 2) rfl (sub_cons (t := 3) rfl (sub_cons (t := 4) rfl (sub_cons (t := 5) rfl (sub_cons (t := 15) rfl (sub_cons (t := 17) rfl (sub_nil _)))))))))
          · clear k44 k54
            refine cw_seq ?_
            refine cw_seq ?_
            refine cw_region ?_
            refine lw_move rfl (by decide) ?_
            refine lw_move rfl (by decide) ?_
            refine lw_move rfl (by decide) ?_
            refine i23 rfl rfl (by assumption) (by decide) ?_
            refine f34_3 rfl (by decide) ?_
            refine lw_load rfl ag32 (by assumption) (by decide) ?_
            refine lw_move rfl (by decide) ?_
            refine i32 rfl rfl (by assumption) (by decide) ?_
            refine f54_0 rfl (by decide) ?_
            refine lw_load rfl ag51 (by assumption) (by decide) ?_
            refine lw_lenSlice rfl Try.underlying51 (by decide) ?_
            refine lw_lss rfl rfl (by decide) ?_
            refine lw_nil ?_
            refine pw_then ?_
            refine cw_cond rfl (fun h => by have := of_decide_eq_true h; omega) (fun _ => ?_)
            refine cw_sub (sub_cons (t := 0) rfl (sub_cons (t := 1) rfl (sub_cons (t := 2) rfl (sub_cons (t := 3) rfl (sub_cons (t := 4) rfl (sub_cons (t := 5) rfl (sub_cons (t := 15) rfl (sub_cons (t := 17) rfl (sub_cons (t := 13) rfl (sub_cons (t := 18) rfl (sub_nil _))))))))))) ?_
            refine cw_exit ?_
            refine pw_then_exit ?_
            refine pw_pass_exit hp5 ?_
            refine pw_block_exit ?_
            refine pw_then ?_
            refine cw_seq ?_
            refine cw_seq ?_
            refine cw_region ?_
            refine lw_move rfl (by decide) ?_
            refine lw_move rfl (by decide) ?_
            refine i23 rfl rfl (by assumption) (by decide) ?_
            refine f34_3 rfl (by decide) ?_
            refine lw_load rfl ag32 (by assumption) (by decide) ?_
            refine lw_move rfl (by decide) ?_
            refine i32 rfl rfl (by assumption) (by decide) ?_
            refine f54_1 rfl (by decide) ?_
            refine lw_load rfl ag52 (by assumption) (by decide) ?_
            refine lw_lenSlice rfl Try.underlying52 (by decide) ?_
            refine lw_gtr rfl (by decide) ?_
            refine lw_nil ?_
            refine pw_then ?_
            refine cw_cond rfl (fun _ => ?_) (fun h => ?_)
            · skip
              refine cw_seq ?_
              refine cw_region ?_
              refine lw_const (by decide) ?_
              refine lw_nil ?_
              refine pw_then ?_
              refine cw_ret ?_
              refine pw_then_ret ?_
              refine pw_block_ret ?_
              refine pw_then_ret ?_
              refine pw_pass_ret hp4 ?_
              refine pw_block_ret ?_
              refine pw_block_ret ?_
              refine pw_then_ret ?_
              refine pw_pass_ret hp2 ?_
              refine pw_block_ret ?_
              refine pw_then_ret ?_
              exact pw_result rfl rfl ⟨retB _, rfl⟩
            clear h
            refine cw_sub (sub_cons (t := 0) rfl (sub_cons (t := 1) rfl (sub_cons (t := 2) rfl (sub_cons (t := 3) rfl (sub_cons (t := 4) rfl (sub_cons (t := 5) rfl (sub_cons (t := 15) rfl (sub_cons (t := 13) rfl (sub_cons (t := 17) rfl (sub_nil _)))))))))) ?_
            refine cw_skip ?_
            refine pw_then ?_
            refine cw_seq ?_
            refine cw_region ?_
            refine lw_move rfl (by decide) ?_
            refine lw_move rfl (by decide) ?_
            refine lw_move rfl (by decide) ?_
            refine i23 rfl rfl (by assumption) (by decide) ?_
            refine f34_3 rfl (by decide) ?_
            refine lw_load rfl ag32 (by assumption) (by decide) ?_
            refine lw_move rfl (by decide) ?_
            refine i32 rfl rfl (by assumption) (by decide) ?_
            refine f54_1 rfl (by decide) ?_
            refine lw_load rfl ag52 (by assumption) (by decide) ?_
            refine lw_lenSlice rfl Try.underlying52 (by decide) ?_
            refine lw_add rfl rfl (by decide) ?_
            refine lw_assign rfl (by decide) ?_
            refine lw_nil ?_
            refine pw_then ?_
            refine cw_seq ?_
            refine cw_seq ?_
            refine cw_region ?_
            refine lw_move rfl (by decide) ?_
            refine lw_gtr rfl (by decide) ?_
            refine lw_nil ?_
            refine pw_then ?_
            refine cw_cond rfl (fun _ => ?_) (fun h => ?_)
            · skip
              refine cw_seq ?_
              refine cw_region ?_
              refine lw_const (by decide) ?_
              refine lw_nil ?_
              refine pw_then ?_
              refine cw_ret ?_
              refine pw_then_ret ?_
              refine pw_block_ret ?_
              refine pw_then_ret ?_
              refine pw_pass_ret hp4 ?_
              refine pw_block_ret ?_
              refine pw_block_ret ?_
              refine pw_then_ret ?_
              refine pw_pass_ret hp2 ?_
              refine pw_block_ret ?_
              refine pw_then_ret ?_
              exact pw_result rfl rfl ⟨retB _, rfl⟩
            clear h
            refine cw_sub (sub_cons (t := 0) rfl (sub_cons (t := 1) rfl (sub_cons (t := 2) rfl (sub_cons (t := 3) rfl (sub_cons (t := 4) rfl (sub_cons (t := 5) rfl (sub_cons (t := 15) rfl (sub_cons (t := 13) rfl (sub_cons (t := 17) rfl (sub_nil _)))))))))) ?_
            refine cw_skip ?_
            refine pw_then ?_
            refine cw_seq ?_
            refine cw_region ?_
            refine lw_const (by decide) ?_
            refine lw_nil ?_
            refine pw_then ?_
            refine cw_block ?_
            refine cw_loop (z := 13) (i := 19) (n := cn4) (fun _ _ => True) (by decide) rfl rfl (sub_cons (t := 0) rfl (sub_cons (t := 1) rfl (sub_cons (t := 2) rfl (sub_cons (t := 3) rfl (sub_cons (t := 4) rfl (sub_cons (t := 5) rfl (sub_cons (t := 15) rfl (sub_cons (t := 17) rfl (sub_nil _))))))))) trivial ?_
            intro q6 k6 hk6 _ K6 hp6 he6
            by_cases hlt6 : k6 < cn4
            · obtain ⟨b6, o6, hao6, _, hat6⟩ := d44 (by omega)
              have hc6 := hat6 k6 hlt6
              generalize C4 k6 = d6 at hc6
              obtain ⟨am6, sh6, oa6, on6, oc6, O6, bd6⟩ := d6
              obtain ⟨x06, x16, x26, x36, y06, y16, y26, y36⟩ := hc6
              simp only at x06 x16 x26 x36 y06 y16 y26 y36
              obtain ⟨z16, z26, -, z46, z56⟩ := y26
              subst hao6
              clear hat6 d44
              refine cw_seq ?_
              refine cw_seq ?_
              refine cw_region ?_
              refine lw_move rfl (by decide) ?_
              refine lw_move rfl (by decide) ?_
              refine lw_move rfl (by decide) ?_
              refine i23 rfl rfl (by assumption) (by decide) ?_
              refine f34_3 rfl (by decide) ?_
              refine lw_load rfl ag32 (by assumption) (by decide) ?_
              refine lw_move rfl (by decide) ?_
              refine i32 rfl rfl (by assumption) (by decide) ?_
              refine f54_1 rfl (by decide) ?_
              refine lw_load rfl ag52 (by assumption) (by decide) ?_
              refine lw_lenSlice rfl Try.underlying52 (by decide) ?_
              refine lw_lss rfl rfl (by decide) ?_
              refine lw_nil ?_
              refine pw_then ?_
              refine cw_cond rfl (fun _ => ?_) (fun h => by have := of_decide_eq_false h; omega)
              refine cw_sub (sub_cons (t := 0) rfl (sub_cons (t := 1) rfl (sub_cons (t := 2) rfl (sub_cons (t := 3) rfl (sub_cons (t := 4) rfl (sub_cons (t := 5) rfl (sub_cons (t := 15) rfl (sub_cons (t := 17) rfl (sub_cons (t := 13) rfl (sub_cons (t := 19) rfl (sub_nil _))))))))))) ?_
              refine cw_skip ?_
              refine pw_then ?_
              refine cw_seq ?_
              refine cw_block ?_
              refine cw_seq ?_
              refine cw_seq ?_
              refine cw_region ?_
              refine lw_move rfl (by decide) ?_
              refine lw_move rfl (by decide) ?_
              refine i23 rfl rfl (by assumption) (by decide) ?_
              refine f34_3 rfl (by decide) ?_
              refine lw_load rfl ag32 (by assumption) (by decide) ?_
              refine lw_move rfl (by decide) ?_
              refine i32 rfl rfl (by assumption) (by decide) ?_
              refine f54_1 rfl (by decide) ?_
              refine lw_load rfl ag52 (by assumption) (by decide) ?_
              refine lw_move rfl (by decide) ?_
              refine i52 rfl rfl (by assumption) (by decide) ?_
              refine f56_0 rfl (by decide) ?_
              refine lw_load rfl ag9 (by assumption) (by decide) ?_
              refine lw_lenString rfl Try.underlying9 (by decide) ?_
              refine lw_gtr rfl (by decide) ?_
              refine lw_nil ?_
              refine pw_then ?_
              refine cw_cond rfl (fun _ => ?_) (fun h => ?_)
              · skip
                refine cw_seq ?_
                refine cw_region ?_
                refine lw_const (by decide) ?_
                refine lw_nil ?_
                refine pw_then ?_
                refine cw_ret ?_
                refine pw_then_ret ?_
                refine pw_block_ret ?_
                refine pw_then_ret ?_
                refine pw_pass_ret hp6 ?_
                refine pw_block_ret ?_
                refine pw_block_ret ?_
                refine pw_then_ret ?_
                refine pw_pass_ret hp4 ?_
                refine pw_block_ret ?_
                refine pw_block_ret ?_
                refine pw_then_ret ?_
                refine pw_pass_ret hp2 ?_
                refine pw_block_ret ?_
                refine pw_then_ret ?_
                exact pw_result rfl rfl ⟨retB _, rfl⟩
              clear h
              refine cw_sub (sub_cons (t := 0) rfl (sub_cons (t := 1) rfl (sub_cons (t := 2) rfl (sub_cons (t := 3) rfl (sub_cons (t := 4) rfl (sub_cons (t := 5) rfl (sub_cons (t := 15) rfl (sub_cons (t := 17) rfl (sub_cons (t := 13) rfl (sub_cons (t := 19) rfl (sub_nil _))))))))))) ?_
              refine cw_skip ?_
              refine pw_then ?_
              refine cw_seq ?_
              refine cw_region ?_
              refine lw_move rfl (by decide) ?_
              refine lw_move rfl (by decide) ?_
              refine lw_move rfl (by decide) ?_
              refine i23 rfl rfl (by assumption) (by decide) ?_
              refine f34_3 rfl (by decide) ?_
              refine lw_load rfl ag32 (by assumption) (by decide) ?_
              refine lw_move rfl (by decide) ?_
              refine i32 rfl rfl (by assumption) (by decide) ?_
              refine f54_1 rfl (by decide) ?_
              refine lw_load rfl ag52 (by assumption) (by decide) ?_
              refine lw_move rfl (by decide) ?_
              refine i52 rfl rfl (by assumption) (by decide) ?_
              refine f56_0 rfl (by decide) ?_
              refine lw_load rfl ag9 (by assumption) (by decide) ?_
              refine lw_lenString rfl Try.underlying9 (by decide) ?_
              refine lw_add rfl rfl (by decide) ?_
              refine lw_assign rfl (by decide) ?_
              refine lw_nil ?_
              refine pw_then ?_
              refine cw_seq ?_
              refine cw_seq ?_
              refine cw_region ?_
              refine lw_move rfl (by decide) ?_
              refine lw_gtr rfl (by decide) ?_
              refine lw_nil ?_
              refine pw_then ?_
              refine cw_cond rfl (fun _ => ?_) (fun h => ?_)
              · skip
                refine cw_seq ?_
                refine cw_region ?_
                refine lw_const (by decide) ?_
                refine lw_nil ?_
                refine pw_then ?_
                refine cw_ret ?_
                refine pw_then_ret ?_
                refine pw_block_ret ?_
                refine pw_then_ret ?_
                refine pw_pass_ret hp6 ?_
                refine pw_block_ret ?_
                refine pw_block_ret ?_
                refine pw_then_ret ?_
                refine pw_pass_ret hp4 ?_
                refine pw_block_ret ?_
                refine pw_block_ret ?_
                refine pw_then_ret ?_
                refine pw_pass_ret hp2 ?_
                refine pw_block_ret ?_
                refine pw_then_ret ?_
                exact pw_result rfl rfl ⟨retB _, rfl⟩
              clear h
              refine cw_sub (sub_cons (t := 0) rfl (sub_cons (t := 1) rfl (sub_cons (t := 2) rfl (sub_cons (t := 3) rfl (sub_cons (t := 4) rfl (sub_cons (t := 5) rfl (sub_cons (t := 15) rfl (sub_cons (t := 17) rfl (sub_cons (t := 13) rfl (sub_cons (t := 19) rfl (sub_nil _))))))))))) ?_
              refine cw_skip ?_
              refine pw_then ?_
              refine cw_seq ?_
              refine cw_seq ?_
              refine cw_region ?_
              refine lw_move rfl (by decide) ?_
              refine lw_move rfl (by decide) ?_
              refine i23 rfl rfl (by assumption) (by decide) ?_
              refine f34_3 rfl (by decide) ?_
              refine lw_load rfl ag32 (by assumption) (by decide) ?_
              refine lw_move rfl (by decide) ?_
              refine i32 rfl rfl (by assumption) (by decide) ?_
              refine f54_1 rfl (by decide) ?_
              refine lw_load rfl ag52 (by assumption) (by decide) ?_
              refine lw_move rfl (by decide) ?_
              refine i52 rfl rfl (by assumption) (by decide) ?_
              refine f56_1 rfl (by decide) ?_
              refine lw_load rfl ag9 (by assumption) (by decide) ?_
              refine lw_lenString rfl Try.underlying9 (by decide) ?_
              refine lw_gtr rfl (by decide) ?_
              refine lw_nil ?_
              refine pw_then ?_
              refine cw_cond rfl (fun _ => ?_) (fun h => ?_)
              · skip
                refine cw_seq ?_
                refine cw_region ?_
                refine lw_const (by decide) ?_
                refine lw_nil ?_
                refine pw_then ?_
                refine cw_ret ?_
                refine pw_then_ret ?_
                refine pw_block_ret ?_
                refine pw_then_ret ?_
                refine pw_pass_ret hp6 ?_
                refine pw_block_ret ?_
                refine pw_block_ret ?_
                refine pw_then_ret ?_
                refine pw_pass_ret hp4 ?_
                refine pw_block_ret ?_
                refine pw_block_ret ?_
                refine pw_then_ret ?_
                refine pw_pass_ret hp2 ?_
                refine pw_block_ret ?_
                refine pw_then_ret ?_
                exact pw_result rfl rfl ⟨retB _, rfl⟩
              clear h
              refine cw_sub (sub_cons (t := 0) rfl (sub_cons (t := 1) rfl (sub_cons (t := 2) rfl (sub_cons (t := 3) rfl (sub_cons (t := 4) rfl (sub_cons (t := 5) rfl (sub_cons (t := 15) rfl (sub_cons (t := 17) rfl (sub_cons (t := 13) rfl (sub_cons (t := 19) rfl (sub_nil _))))))))))) ?_
              refine cw_skip ?_
              refine pw_then ?_
              refine cw_seq ?_
              refine cw_region ?_
              refine lw_move rfl (by decide) ?_
              refine lw_move rfl (by decide) ?_
              refine lw_move rfl (by decide) ?_
              refine i23 rfl rfl (by assumption) (by decide) ?_
              refine f34_3 rfl (by decide) ?_
              refine lw_load rfl ag32 (by assumption) (by decide) ?_
              refine lw_move rfl (by decide) ?_
              refine i32 rfl rfl (by assumption) (by decide) ?_
              refine f54_1 rfl (by decide) ?_
              refine lw_load rfl ag52 (by assumption) (by decide) ?_
              refine lw_move rfl (by decide) ?_
              refine i52 rfl rfl (by assumption) (by decide) ?_
              refine f56_1 rfl (by decide) ?_
              refine lw_load rfl ag9 (by assumption) (by decide) ?_
              refine lw_lenString rfl Try.underlying9 (by decide) ?_
              refine lw_add rfl rfl (by decide) ?_
              refine lw_assign rfl (by decide) ?_
              refine lw_nil ?_
              refine pw_then ?_
              refine cw_seq ?_
              refine cw_seq ?_
              refine cw_region ?_
              refine lw_move rfl (by decide) ?_
              refine lw_gtr rfl (by decide) ?_
              refine lw_nil ?_
              refine pw_then ?_
              refine cw_cond rfl (fun _ => ?_) (fun h => ?_)
              · skip
                refine cw_seq ?_
                refine cw_region ?_
                refine lw_const (by decide) ?_
                refine lw_nil ?_
                refine pw_then ?_
                refine cw_ret ?_
                refine pw_then_ret ?_
                refine pw_block_ret ?_
                refine pw_then_ret ?_
                refine pw_pass_ret hp6 ?_
                refine pw_block_ret ?_
                refine pw_block_ret ?_
                refine pw_then_ret ?_
                refine pw_pass_ret hp4 ?_
                refine pw_block_ret ?_
                refine pw_block_ret ?_
                refine pw_then_ret ?_
                refine pw_pass_ret hp2 ?_
                refine pw_block_ret ?_
                refine pw_then_ret ?_
                exact pw_result rfl rfl ⟨retB _, rfl⟩
              clear h
              refine cw_sub (sub_cons (t := 0) rfl (sub_cons (t := 1) rfl (sub_cons (t := 2) rfl (sub_cons (t := 3) rfl (sub_cons (t := 4) rfl (sub_cons (t := 5) rfl (sub_cons (t := 15) rfl (sub_cons (t := 17) rfl (sub_cons (t := 13) rfl (sub_cons (t := 19) rfl (sub_nil _))))))))))) ?_
              refine cw_skip ?_
              refine pw_then ?_
              refine cw_seq ?_
              refine cw_seq ?_
              refine cw_region ?_
              refine lw_move rfl (by decide) ?_
              refine lw_move rfl (by decide) ?_
              refine i23 rfl rfl (by assumption) (by decide) ?_
              refine f34_3 rfl (by decide) ?_
              refine lw_load rfl ag32 (by assumption) (by decide) ?_
              refine lw_move rfl (by decide) ?_
              refine i32 rfl rfl (by assumption) (by decide) ?_
              refine f54_1 rfl (by decide) ?_
              refine lw_load rfl ag52 (by assumption) (by decide) ?_
              refine lw_move rfl (by decide) ?_
              refine i52 rfl rfl (by assumption) (by decide) ?_
              refine f56_2 rfl (by decide) ?_
              refine lw_load rfl ag51 (by assumption) (by decide) ?_
              refine lw_lenSlice rfl Try.underlying51 (by decide) ?_
              refine lw_gtr rfl (by decide) ?_
              refine lw_nil ?_
              refine pw_then ?_
              refine cw_cond rfl (fun _ => ?_) (fun h => ?_)
              · skip
                refine cw_seq ?_
                refine cw_region ?_
                refine lw_const (by decide) ?_
                refine lw_nil ?_
                refine pw_then ?_
                refine cw_ret ?_
                refine pw_then_ret ?_
                refine pw_block_ret ?_
                refine pw_then_ret ?_
                refine pw_pass_ret hp6 ?_
                refine pw_block_ret ?_
                refine pw_block_ret ?_
                refine pw_then_ret ?_
                refine pw_pass_ret hp4 ?_
                refine pw_block_ret ?_
                refine pw_block_ret ?_
                refine pw_then_ret ?_
                refine pw_pass_ret hp2 ?_
                refine pw_block_ret ?_
                refine pw_then_ret ?_
                exact pw_result rfl rfl ⟨retB _, rfl⟩
              clear h
              refine cw_sub (sub_cons (t := 0) rfl (sub_cons (t := 1) rfl (sub_cons (t := 2) rfl (sub_cons (t := 3) rfl (sub_cons (t := 4) rfl (sub_cons (t := 5) rfl (sub_cons (t := 15) rfl (sub_cons (t := 17) rfl (sub_cons (t := 13) rfl (sub_cons (t := 19) rfl (sub_nil _))))))))))) ?_
              refine cw_skip ?_
              refine pw_then ?_
              refine cw_seq ?_
              refine cw_region ?_
              refine lw_move rfl (by decide) ?_
              refine lw_move rfl (by decide) ?_
              refine lw_move rfl (by decide) ?_
              refine i23 rfl rfl (by assumption) (by decide) ?_
              refine f34_3 rfl (by decide) ?_
              refine lw_load rfl ag32 (by assumption) (by decide) ?_
              refine lw_move rfl (by decide) ?_
              refine i32 rfl rfl (by assumption) (by decide) ?_
              refine f54_1 rfl (by decide) ?_
              refine lw_load rfl ag52 (by assumption) (by decide) ?_
              refine lw_move rfl (by decide) ?_
              refine i52 rfl rfl (by assumption) (by decide) ?_
              refine f56_2 rfl (by decide) ?_
              refine lw_load rfl ag51 (by assumption) (by decide) ?_
              refine lw_lenSlice rfl Try.underlying51 (by decide) ?_
              refine lw_add rfl rfl (by decide) ?_
              refine lw_assign rfl (by decide) ?_
              refine lw_nil ?_
              refine pw_then ?_
              refine cw_seq ?_
              refine cw_seq ?_
              refine cw_region ?_
              refine lw_move rfl (by decide) ?_
              refine lw_gtr rfl (by decide) ?_
              refine lw_nil ?_
              refine pw_then ?_
              refine cw_cond rfl (fun _ => ?_) (fun h => ?_)
              · skip
                refine cw_seq ?_
                refine cw_region ?_
                refine lw_const (by decide) ?_
                refine lw_nil ?_
                refine pw_then ?_
                refine cw_ret ?_
                refine pw_then_ret ?_
                refine pw_block_ret ?_
                refine pw_then_ret ?_
                refine pw_pass_ret hp6 ?_
                refine pw_block_ret ?_
                refine pw_block_ret ?_
                refine pw_then_ret ?_
                refine pw_pass_ret hp4 ?_
                refine pw_block_ret ?_
                refine pw_block_ret ?_
                refine pw_then_ret ?_
                refine pw_pass_ret hp2 ?_
                refine pw_block_ret ?_
                refine pw_then_ret ?_
                exact pw_result rfl rfl ⟨retB _, rfl⟩
              clear h
              refine cw_sub (sub_cons (t := 0) rfl (sub_cons (t := 1) rfl (sub_cons (t := 2) rfl (sub_cons (t := 3) rfl (sub_cons (t := 4) rfl (sub_cons (t := 5) rfl (sub_cons (t := 15) rfl (sub_cons (t := 17) rfl (sub_cons (t := 13) rfl (sub_cons (t := 19) rfl (sub_nil _))))))))))) ?_
              refine cw_skip ?_
              refine pw_then ?_
              refine cw_seq ?_
              refine cw_seq ?_
              refine cw_region ?_
              refine lw_const (by decide) ?_
              refine lw_nil ?_
              refine pw_then ?_
              refine cw_block ?_
              refine cw_loop (z := 13) (i := 20) (n := on6) (fun _ _ => True) (by decide) rfl rfl (sub_cons (t := 0) rfl (sub_cons (t := 1) rfl (sub_cons (t := 2) rfl (sub_cons (t := 3) rfl (sub_cons (t := 4) rfl (sub_cons (t := 5) rfl (sub_cons (t := 15) rfl (sub_cons (t := 17) rfl (sub_cons (t := 19) rfl (sub_nil _)))))))))) trivial ?_
              intro q7 k7 hk7 _ K7 hp7 he7
              by_cases hlt7 : k7 < on6
              · obtain ⟨b7, o7, hao7, _, hat7⟩ := z46 (by omega)
                have hc7 := hat7 k7 hlt7
                have hs7 := z56 k7 hlt7
                subst hao7
                clear hat7 z46 z56
                refine cw_seq ?_
                refine cw_seq ?_
                refine cw_region ?_
                refine lw_move rfl (by decide) ?_
                refine lw_move rfl (by decide) ?_
                refine lw_move rfl (by decide) ?_
                refine i23 rfl rfl (by assumption) (by decide) ?_
                refine f34_3 rfl (by decide) ?_
                refine lw_load rfl ag32 (by assumption) (by decide) ?_
                refine lw_move rfl (by decide) ?_
                refine i32 rfl rfl (by assumption) (by decide) ?_
                refine f54_1 rfl (by decide) ?_
                refine lw_load rfl ag52 (by assumption) (by decide) ?_
                refine lw_move rfl (by decide) ?_
                refine i52 rfl rfl (by assumption) (by decide) ?_
                refine f56_2 rfl (by decide) ?_
                refine lw_load rfl ag51 (by assumption) (by decide) ?_
                refine lw_lenSlice rfl Try.underlying51 (by decide) ?_
                refine lw_lss rfl rfl (by decide) ?_
                refine lw_nil ?_
                refine pw_then ?_
                refine cw_cond rfl (fun _ => ?_) (fun h => by have := of_decide_eq_false h; omega)
                refine cw_sub (sub_cons (t := 0) rfl (sub_cons (t := 1) rfl (sub_cons (t := 2) rfl (sub_cons (t := 3) rfl (sub_cons (t := 4) rfl (sub_cons (t := 5) rfl (sub_cons (t := 15) rfl (sub_cons (t := 17) rfl (sub_cons (t := 19) rfl (sub_cons (t := 13) rfl (sub_cons (t := 20) rfl (sub_nil _)))))))))))) ?_
                refine cw_skip ?_
                refine pw_then ?_
                refine cw_seq ?_
                refine cw_block ?_
                refine cw_seq ?_
                refine cw_seq ?_
                refine cw_region ?_
                refine lw_move rfl (by decide) ?_
                refine lw_move rfl (by decide) ?_
                refine i23 rfl rfl (by assumption) (by decide) ?_
                refine f34_3 rfl (by decide) ?_
                refine lw_load rfl ag32 (by assumption) (by decide) ?_
                refine lw_move rfl (by decide) ?_
                refine i32 rfl rfl (by assumption) (by decide) ?_
                refine f54_1 rfl (by decide) ?_
                refine lw_load rfl ag52 (by assumption) (by decide) ?_
                refine lw_move rfl (by decide) ?_
                refine i52 rfl rfl (by assumption) (by decide) ?_
                refine f56_2 rfl (by decide) ?_
                refine lw_load rfl ag51 (by assumption) (by decide) ?_
                refine lw_move rfl (by decide) ?_
                refine i51 rfl rfl (by assumption) (by decide) ?_
                refine lw_load rfl ag9 (by assumption) (by decide) ?_
                refine lw_lenString rfl Try.underlying9 (by decide) ?_
                refine lw_gtr rfl (by decide) ?_
                refine lw_nil ?_
                refine pw_then ?_
                refine cw_cond rfl (fun _ => ?_) (fun h => ?_)
                · skip
                  refine cw_seq ?_
                  refine cw_region ?_
                  refine lw_const (by decide) ?_
                  refine lw_nil ?_
                  refine pw_then ?_
                  refine cw_ret ?_
                  refine pw_then_ret ?_
                  refine pw_block_ret ?_
                  refine pw_then_ret ?_
                  refine pw_pass_ret hp7 ?_
                  refine pw_block_ret ?_
                  refine pw_then_ret ?_
                  refine pw_block_ret ?_
                  refine pw_then_ret ?_
                  refine pw_pass_ret hp6 ?_
                  refine pw_block_ret ?_
                  refine pw_block_ret ?_
                  refine pw_then_ret ?_
                  refine pw_pass_ret hp4 ?_
                  refine pw_block_ret ?_
                  refine pw_block_ret ?_
                  refine pw_then_ret ?_
                  refine pw_pass_ret hp2 ?_
                  refine pw_block_ret ?_
                  refine pw_then_ret ?_
                  exact pw_result rfl rfl ⟨retB _, rfl⟩
                clear h
                refine cw_sub (sub_cons (t := 0) rfl (sub_cons (t := 1) rfl (sub_cons (t := 2) rfl (sub_cons (t := 3) rfl (sub_cons (t := 4) rfl (sub_cons (t := 5) rfl (sub_cons (t := 15) rfl (sub_cons (t := 17) rfl (sub_cons (t := 19) rfl (sub_cons (t := 13) rfl (sub_cons (t := 20) rfl (sub_nil _)))))))))))) ?_
                refine cw_skip ?_
                refine pw_then ?_
                refine cw_seq ?_
                refine cw_region ?_
                refine lw_move rfl (by decide) ?_
                refine lw_move rfl (by decide) ?_
                refine lw_move rfl (by decide) ?_
                refine i23 rfl rfl (by assumption) (by decide) ?_
                refine f34_3 rfl (by decide) ?_
                refine lw_load rfl ag32 (by assumption) (by decide) ?_
                refine lw_move rfl (by decide) ?_
                refine i32 rfl rfl (by assumption) (by decide) ?_
                refine f54_1 rfl (by decide) ?_
                refine lw_load rfl ag52 (by assumption) (by decide) ?_
                refine lw_move rfl (by decide) ?_
                refine i52 rfl rfl (by assumption) (by decide) ?_
                refine f56_2 rfl (by decide) ?_
                refine lw_load rfl ag51 (by assumption) (by decide) ?_
                refine lw_move rfl (by decide) ?_
                refine i51 rfl rfl (by assumption) (by decide) ?_
                refine lw_load rfl ag9 (by assumption) (by decide) ?_
                refine lw_lenString rfl Try.underlying9 (by decide) ?_
                refine lw_add rfl rfl (by decide) ?_
                refine lw_assign rfl (by decide) ?_
                refine lw_nil ?_
                refine pw_then ?_
                refine cw_seq ?_
                refine cw_region ?_
                refine lw_move rfl (by decide) ?_
                refine lw_gtr rfl (by decide) ?_
                refine lw_nil ?_
                refine pw_then ?_
                refine cw_cond rfl (fun _ => ?_) (fun h => ?_)
                · skip
                  refine cw_seq ?_
                  refine cw_region ?_
                  refine lw_const (by decide) ?_
                  refine lw_nil ?_
                  refine pw_then ?_
                  refine cw_ret ?_
                  refine pw_block_ret ?_
                  refine pw_then_ret ?_
                  refine pw_pass_ret hp7 ?_
                  refine pw_block_ret ?_
                  refine pw_then_ret ?_
                  refine pw_block_ret ?_
                  refine pw_then_ret ?_
                  refine pw_pass_ret hp6 ?_
                  refine pw_block_ret ?_
                  refine pw_block_ret ?_
                  refine pw_then_ret ?_
                  refine pw_pass_ret hp4 ?_
                  refine pw_block_ret ?_
                  refine pw_block_ret ?_
                  refine pw_then_ret ?_
                  refine pw_pass_ret hp2 ?_
                  refine pw_block_ret ?_
                  refine pw_then_ret ?_
                  exact pw_result rfl rfl ⟨retB _, rfl⟩
                clear h
                refine cw_sub (sub_cons (t := 0) rfl (sub_cons (t := 1) rfl (sub_cons (t := 2) rfl (sub_cons (t := 3) rfl (sub_cons (t := 4) rfl (sub_cons (t := 5) rfl (sub_cons (t := 15) rfl (sub_cons (t := 17) rfl (sub_cons (t := 19) rfl (sub_cons (t := 13) rfl (sub_cons (t := 20) rfl (sub_nil _)))))))))))) ?_
                refine cw_skip ?_
                refine pw_block_normal ?_
                refine pw_then ?_
                refine cw_region ?_
                refine lw_move rfl (by decide) ?_
                refine lw_inc rfl (by omega) (by decide) ?_
                refine lw_assign rfl (by decide) ?_
                refine lw_nil ?_
                exact he7 _ _ trivial (by omega) rfl rfl (sub_cons (t := 0) rfl (sub_cons (t := 1) rfl (sub_cons (t := 2) rfl (sub_cons (t := 3) rfl (sub_cons (t := 4) rfl (sub_cons (t := 5) rfl (sub_cons (t := 15) rfl (sub_cons (t := 17) rfl (sub_cons (t := 19) rfl (sub_nil _))))))))))
              · clear z46 z56
                refine cw_seq ?_
                refine cw_seq ?_
                refine cw_region ?_
                refine lw_move rfl (by decide) ?_
                refine lw_move rfl (by decide) ?_
                refine lw_move rfl (by decide) ?_
                refine i23 rfl rfl (by assumption) (by decide) ?_
                refine f34_3 rfl (by decide) ?_
                refine lw_load rfl ag32 (by assumption) (by decide) ?_
                refine lw_move rfl (by decide) ?_
                refine i32 rfl rfl (by assumption) (by decide) ?_
                refine f54_1 rfl (by decide) ?_
                refine lw_load rfl ag52 (by assumption) (by decide) ?_
                refine lw_move rfl (by decide) ?_
                refine i52 rfl rfl (by assumption) (by decide) ?_
                refine f56_2 rfl (by decide) ?_
                refine lw_load rfl ag51 (by assumption) (by decide) ?_
                refine lw_lenSlice rfl Try.underlying51 (by decide) ?_
                refine lw_lss rfl rfl (by decide) ?_
                refine lw_nil ?_
                refine pw_then ?_
                refine cw_cond rfl (fun h => by have := of_decide_eq_true h; omega) (fun _ => ?_)
                refine cw_sub (sub_cons (t := 0) rfl (sub_cons (t := 1) rfl (sub_cons (t := 2) rfl (sub_cons (t := 3) rfl (sub_cons (t := 4) rfl (sub_cons (t := 5) rfl (sub_cons (t := 15) rfl (sub_cons (t := 17) rfl (sub_cons (t := 19) rfl (sub_cons (t := 13) rfl (sub_cons (t := 20) rfl (sub_nil _)))))))))))) ?_
                refine cw_exit ?_
                refine pw_then_exit ?_
                refine pw_pass_exit hp7 ?_
                refine pw_block_exit ?_
                refine pw_then ?_
                refine cw_seq ?_
                refine cw_seq ?_
                refine cw_region ?_
                refine lw_move rfl (by decide) ?_
                refine lw_move rfl (by decide) ?_
                refine i23 rfl rfl (by assumption) (by decide) ?_
                refine f34_3 rfl (by decide) ?_
                refine lw_load rfl ag32 (by assumption) (by decide) ?_
                refine lw_move rfl (by decide) ?_
                refine i32 rfl rfl (by assumption) (by decide) ?_
                refine f54_1 rfl (by decide) ?_
                refine lw_load rfl ag52 (by assumption) (by decide) ?_
                refine lw_move rfl (by decide) ?_
                refine i52 rfl rfl (by assumption) (by decide) ?_
                refine f56_3 rfl (by decide) ?_
                refine lw_load rfl ag9 (by assumption) (by decide) ?_
                refine lw_lenString rfl Try.underlying9 (by decide) ?_
                refine lw_gtr rfl (by decide) ?_
                refine lw_nil ?_
                refine pw_then ?_
                refine cw_cond rfl (fun _ => ?_) (fun h => ?_)
                · skip
                  refine cw_seq ?_
                  refine cw_region ?_
                  refine lw_const (by decide) ?_
                  refine lw_nil ?_
                  refine pw_then ?_
                  refine cw_ret ?_
                  refine pw_then_ret ?_
                  refine pw_block_ret ?_
                  refine pw_then_ret ?_
                  refine pw_pass_ret hp6 ?_
                  refine pw_block_ret ?_
                  refine pw_block_ret ?_
                  refine pw_then_ret ?_
                  refine pw_pass_ret hp4 ?_
                  refine pw_block_ret ?_
                  refine pw_block_ret ?_
                  refine pw_then_ret ?_
                  refine pw_pass_ret hp2 ?_
                  refine pw_block_ret ?_
                  refine pw_then_ret ?_
                  exact pw_result rfl rfl ⟨retB _, rfl⟩
                clear h
                refine cw_sub (sub_cons (t := 0) rfl (sub_cons (t := 1) rfl (sub_cons (t := 2) rfl (sub_cons (t := 3) rfl (sub_cons (t := 4) rfl (sub_cons (t := 5) rfl (sub_cons (t := 15) rfl (sub_cons (t := 17) rfl (sub_cons (t := 13) rfl (sub_cons (t := 19) rfl (sub_nil _))))))))))) ?_
                refine cw_skip ?_
                refine pw_then ?_
                refine cw_seq ?_
                refine cw_region ?_
                refine lw_move rfl (by decide) ?_
                refine lw_move rfl (by decide) ?_
                refine lw_move rfl (by decide) ?_
                refine i23 rfl rfl (by assumption) (by decide) ?_
                refine f34_3 rfl (by decide) ?_
                refine lw_load rfl ag32 (by assumption) (by decide) ?_
                refine lw_move rfl (by decide) ?_
                refine i32 rfl rfl (by assumption) (by decide) ?_
                refine f54_1 rfl (by decide) ?_
                refine lw_load rfl ag52 (by assumption) (by decide) ?_
                refine lw_move rfl (by decide) ?_
                refine i52 rfl rfl (by assumption) (by decide) ?_
                refine f56_3 rfl (by decide) ?_
                refine lw_load rfl ag9 (by assumption) (by decide) ?_
                refine lw_lenString rfl Try.underlying9 (by decide) ?_
                refine lw_add rfl rfl (by decide) ?_
                refine lw_assign rfl (by decide) ?_
                refine lw_nil ?_
                refine pw_then ?_
                refine cw_seq ?_
                refine cw_region ?_
                refine lw_move rfl (by decide) ?_
                refine lw_gtr rfl (by decide) ?_
                refine lw_nil ?_
                refine pw_then ?_
                refine cw_cond rfl (fun _ => ?_) (fun h => ?_)
                · skip
                  refine cw_seq ?_
                  refine cw_region ?_
                  refine lw_const (by decide) ?_
                  refine lw_nil ?_
                  refine pw_then ?_
                  refine cw_ret ?_
                  refine pw_block_ret ?_
                  refine pw_then_ret ?_
                  refine pw_pass_ret hp6 ?_
                  refine pw_block_ret ?_
                  refine pw_block_ret ?_
                  refine pw_then_ret ?_
                  refine pw_pass_ret hp4 ?_
                  refine pw_block_ret ?_
                  refine pw_block_ret ?_
                  refine pw_then_ret ?_
                  refine pw_pass_ret hp2 ?_
                  refine pw_block_ret ?_
                  refine pw_then_ret ?_
                  exact pw_result rfl rfl ⟨retB _, rfl⟩
                clear h
                refine cw_sub (sub_cons (t := 0) rfl (sub_cons (t := 1) rfl (sub_cons (t := 2) rfl (sub_cons (t := 3) rfl (sub_cons (t := 4) rfl (sub_cons (t := 5) rfl (sub_cons (t := 15) rfl (sub_cons (t := 17) rfl (sub_cons (t := 13) rfl (sub_cons (t := 19) rfl (sub_nil _))))))))))) ?_
                refine cw_skip ?_
                refine pw_block_normal ?_
                refine pw_then ?_
                refine cw_region ?_
                refine lw_move rfl (by decide) ?_
                refine lw_inc rfl (by omega) (by decide) ?_
                refine lw_assign rfl (by decide) ?_
                refine lw_nil ?_
                exact he6 _ _ trivial (by omega) rfl rfl (sub_cons (t := 0) rfl (sub_cons (t := 1) rfl (sub_cons (t := 2) rfl (sub_cons (t := 3) rfl (sub_cons (t := 4) rfl (sub_cons (t := 5) rfl (sub_cons (t := 15) rfl (sub_cons (t := 17) rfl (sub_nil _)))))))))
            · clear d44
              refine cw_seq ?_
              refine cw_seq ?_
              refine cw_region ?_
              refine lw_move rfl (by decide) ?_
              refine lw_move rfl (by decide) ?_
              refine lw_move rfl (by decide) ?_
              refine i23 rfl rfl (by assumption) (by decide) ?_
              refine f34_3 rfl (by decide) ?_
              refine lw_load rfl ag32 (by assumption) (by decide) ?_
              refine lw_move rfl (by decide) ?_
              refine i32 rfl rfl (by assumption) (by decide) ?_
              refine f54_1 rfl (by decide) ?_
              refine lw_load rfl ag52 (by assumption) (by decide) ?_
              refine lw_lenSlice rfl Try.underlying52 (by decide) ?_
              refine lw_lss rfl rfl (by decide) ?_
              refine lw_nil ?_
              refine pw_then ?_
              refine cw_cond rfl (fun h => by have := of_decide_eq_true h; omega) (fun _ => ?_)
              refine cw_sub (sub_cons (t := 0) rfl (sub_cons (t := 1) rfl (sub_cons (t := 2) rfl (sub_cons (t := 3) rfl (sub_cons (t := 4) rfl (sub_cons (t := 5) rfl (sub_cons (t := 15) rfl (sub_cons (t := 17) rfl (sub_cons (t := 13) rfl (sub_cons (t := 19) rfl (sub_nil _))))))))))) ?_
              refine cw_exit ?_
              refine pw_then_exit ?_
              refine pw_pass_exit hp6 ?_
              refine pw_block_exit ?_
              refine pw_block_normal ?_
              refine pw_then ?_
              refine cw_region ?_
              refine lw_move rfl (by decide) ?_
              refine lw_inc rfl (by omega) (by decide) ?_
              refine lw_assign rfl (by decide) ?_
              refine lw_nil ?_
              exact he4 _ _ trivial (by omega) rfl rfl (sub_cons (t := 0) rfl (sub_cons (t := 1) rfl (sub_cons (t := 2) rfl (sub_cons (t := 3) rfl (sub_cons (t := 4) rfl (sub_cons (t := 5) rfl (sub_cons (t := 15) rfl (sub_nil _))))))))
        · clear d42
          refine cw_seq ?_
          refine cw_seq ?_
          refine cw_region ?_
          refine lw_move rfl (by decide) ?_
          refine lw_move rfl (by decide) ?_
          refine lw_move rfl (by decide) ?_
          refine i23 rfl rfl (by assumption) (by decide) ?_
          refine f34_3 rfl (by decide) ?_
          refine lw_load rfl ag32 (by assumption) (by decide) ?_
          refine lw_lenSlice rfl Try.underlying32 (by decide) ?_
          refine lw_lss rfl rfl (by decide) ?_
          refine lw_nil ?_
          refine pw_then ?_
          refine cw_cond rfl (fun h => by have := of_decide_eq_true h; omega) (fun _ => ?_)
          refine cw_sub (sub_cons (t := 0) rfl (sub_cons (t := 1) rfl (sub_cons (t := 2) rfl (sub_cons (t := 3) rfl (sub_cons (t := 4) rfl (sub_cons (t := 5) rfl (sub_cons (t := 15) rfl (sub_cons (t := 13) rfl (sub_cons (t := 17) rfl (sub_nil _)))))))))) ?_
          refine cw_exit ?_
          refine pw_then_exit ?_
          refine pw_pass_exit hp4 ?_
          refine pw_block_exit ?_
          refine pw_block_normal ?_
          refine pw_then ?_
          refine cw_region ?_
          refine lw_move rfl (by decide) ?_
          refine lw_inc rfl (by omega) (by decide) ?_
          refine lw_assign rfl (by decide) ?_
          refine lw_nil ?_
          exact he2 _ _ trivial (by omega) rfl rfl (sub_cons (t := 0) rfl (sub_cons (t := 1) rfl (sub_cons (t := 2) rfl (sub_cons (t := 3) rfl (sub_cons (t := 4) rfl (sub_cons (t := 5) rfl (sub_nil _)))))))
    · clear ga
      refine cw_seq ?_
      refine cw_seq ?_
      refine cw_region ?_
      refine lw_move rfl (by decide) ?_
      refine lw_move rfl (by decide) ?_
      refine lw_lenSlice rfl Try.underlying23 (by decide) ?_
      refine lw_lss rfl rfl (by decide) ?_
      refine lw_nil ?_
      refine pw_then ?_
      refine cw_cond rfl (fun h => by have := of_decide_eq_true h; omega) (fun _ => ?_)
      refine cw_sub (sub_cons (t := 0) rfl (sub_cons (t := 1) rfl (sub_cons (t := 2) rfl (sub_cons (t := 3) rfl (sub_cons (t := 4) rfl (sub_cons (t := 5) rfl (sub_cons (t := 13) rfl (sub_cons (t := 15) rfl (sub_nil _))))))))) ?_
      refine cw_exit ?_
      refine pw_then_exit ?_
      refine pw_pass_exit hp2 ?_
      refine pw_block_exit ?_
      refine pw_then ?_
      refine cw_cut (z := 13) (sub_cons (t := 0) rfl (sub_cons (t := 1) rfl (sub_cons (t := 2) rfl (sub_cons (t := 3) rfl (sub_cons (t := 4) rfl (sub_cons (t := 5) rfl (sub_nil _))))))) (fun Kc1 hpc1 hec1 => ?_) (fun qc1 => ?_)
      · rcases hbv with rfl | ⟨bb, bo, rfl, _, pq, pa, pd, cb0, cb1, cb2, hh0, hh1, hh2⟩
        · skip
          refine cw_seq ?_
          refine cw_region ?_
          refine lw_move rfl (by decide) ?_
          refine lw_neqNil rfl Try.underlying24 (by decide) ?_
          refine lw_nil ?_
          refine pw_then ?_
          refine cw_cond rfl (fun h => by simp at h) (fun _ => ?_)
          refine cw_skip ?_
          exact hec1 _ _ rfl (sub_cons (t := 0) rfl (sub_cons (t := 1) rfl (sub_cons (t := 2) rfl (sub_cons (t := 3) rfl (sub_cons (t := 4) rfl (sub_cons (t := 5) rfl (sub_nil _)))))))
        · skip
          refine cw_seq ?_
          refine cw_region ?_
          refine lw_move rfl (by decide) ?_
          refine lw_neqNil rfl Try.underlying24 (by decide) ?_
          refine lw_nil ?_
          refine pw_then ?_
          refine cw_cond rfl (fun _ => ?_) (fun h => by simp at h)
          refine cw_sub (sub_cons (t := 0) rfl (sub_cons (t := 1) rfl (sub_cons (t := 2) rfl (sub_cons (t := 3) rfl (sub_cons (t := 4) rfl (sub_cons (t := 5) rfl (sub_cons (t := 13) rfl (sub_nil _)))))))) ?_
          refine cw_cut (z := 13) (sub_cons (t := 0) rfl (sub_cons (t := 1) rfl (sub_cons (t := 2) rfl (sub_cons (t := 3) rfl (sub_cons (t := 4) rfl (sub_cons (t := 5) rfl (sub_nil _))))))) (fun Kc2 hpc2 hec2 => ?_) (fun qc2 => ?_)
          · rcases hh0 with rfl | ⟨bh0, oh0, rfl, _, nh0, fh0, dh0, ch00, ch10, ch20, _, _⟩
            · skip
              refine cw_seq ?_
              refine cw_region ?_
              refine lw_move rfl (by decide) ?_
              refine lw_nilCheck rfl (by decide) ?_
              refine f75_0 rfl (by decide) ?_
              refine lw_load rfl ag73 (by assumption) (by decide) ?_
              refine lw_neqNil rfl Try.underlying73 (by decide) ?_
              refine lw_nil ?_
              refine pw_then ?_
              refine cw_cond rfl (fun h => by simp at h) (fun _ => ?_)
              refine cw_skip ?_
              exact hec2 _ _ rfl (sub_cons (t := 0) rfl (sub_cons (t := 1) rfl (sub_cons (t := 2) rfl (sub_cons (t := 3) rfl (sub_cons (t := 4) rfl (sub_cons (t := 5) rfl (sub_nil _)))))))
            · skip
              refine cw_seq ?_
              refine cw_region ?_
              refine lw_move rfl (by decide) ?_
              refine lw_nilCheck rfl (by decide) ?_
              refine f75_0 rfl (by decide) ?_
              refine lw_load rfl ag73 (by assumption) (by decide) ?_
              refine lw_neqNil rfl Try.underlying73 (by decide) ?_
              refine lw_nil ?_
              refine pw_then ?_
              refine cw_cond rfl (fun _ => ?_) (fun h => by simp at h)
              refine cw_sub (sub_cons (t := 0) rfl (sub_cons (t := 1) rfl (sub_cons (t := 2) rfl (sub_cons (t := 3) rfl (sub_cons (t := 4) rfl (sub_cons (t := 5) rfl (sub_cons (t := 13) rfl (sub_nil _)))))))) ?_
              refine cw_seq ?_
              refine cw_seq ?_
              refine cw_region ?_
              refine lw_move rfl (by decide) ?_
              refine lw_nilCheck rfl (by decide) ?_
              refine f75_0 rfl (by decide) ?_
              refine lw_load rfl ag73 (by assumption) (by decide) ?_
              refine lw_nilCheck rfl (by decide) ?_
              refine f77_1 rfl (by decide) ?_
              refine lw_load rfl ag9 (by assumption) (by decide) ?_
              refine lw_lenString rfl Try.underlying9 (by decide) ?_
              refine lw_gtr rfl (by decide) ?_
              refine lw_nil ?_
              refine pw_then ?_
              refine cw_cond rfl (fun _ => ?_) (fun h => ?_)
              · skip
                refine cw_seq ?_
                refine cw_region ?_
                refine lw_const (by decide) ?_
                refine lw_nil ?_
                refine pw_then ?_
                refine cw_ret ?_
                refine pw_then_ret ?_
                refine pw_pass_ret hpc2 ?_
                refine pw_pass_ret hpc1 ?_
                exact pw_result rfl rfl ⟨retB _, rfl⟩
              clear h
              refine cw_sub (sub_cons (t := 0) rfl (sub_cons (t := 1) rfl (sub_cons (t := 2) rfl (sub_cons (t := 3) rfl (sub_cons (t := 4) rfl (sub_cons (t := 5) rfl (sub_cons (t := 13) rfl (sub_nil _)))))))) ?_
              refine cw_skip ?_
              refine pw_then ?_
              refine cw_seq ?_
              refine cw_region ?_
              refine lw_move rfl (by decide) ?_
              refine lw_move rfl (by decide) ?_
              refine lw_nilCheck rfl (by decide) ?_
              refine f75_0 rfl (by decide) ?_
              refine lw_load rfl ag73 (by assumption) (by decide) ?_
              refine lw_nilCheck rfl (by decide) ?_
              refine f77_1 rfl (by decide) ?_
              refine lw_load rfl ag9 (by assumption) (by decide) ?_
              refine lw_lenString rfl Try.underlying9 (by decide) ?_
              refine lw_add rfl rfl (by decide) ?_
              refine lw_assign rfl (by decide) ?_
              refine lw_nil ?_
              refine pw_then ?_
              refine cw_seq ?_
              refine cw_seq ?_
              refine cw_region ?_
              refine lw_move rfl (by decide) ?_
              refine lw_gtr rfl (by decide) ?_
              refine lw_nil ?_
              refine pw_then ?_
              refine cw_cond rfl (fun _ => ?_) (fun h => ?_)
              · skip
                refine cw_seq ?_
                refine cw_region ?_
                refine lw_const (by decide) ?_
                refine lw_nil ?_
                refine pw_then ?_
                refine cw_ret ?_
                refine pw_then_ret ?_
                refine pw_pass_ret hpc2 ?_
                refine pw_pass_ret hpc1 ?_
                exact pw_result rfl rfl ⟨retB _, rfl⟩
              clear h
              refine cw_sub (sub_cons (t := 0) rfl (sub_cons (t := 1) rfl (sub_cons (t := 2) rfl (sub_cons (t := 3) rfl (sub_cons (t := 4) rfl (sub_cons (t := 5) rfl (sub_cons (t := 13) rfl (sub_nil _)))))))) ?_
              refine cw_skip ?_
              refine pw_then ?_
              refine cw_seq ?_
              refine cw_seq ?_
              refine cw_region ?_
              refine lw_move rfl (by decide) ?_
              refine lw_nilCheck rfl (by decide) ?_
              refine f75_0 rfl (by decide) ?_
              refine lw_load rfl ag73 (by assumption) (by decide) ?_
              refine lw_nilCheck rfl (by decide) ?_
              refine f77_2 rfl (by decide) ?_
              refine lw_load rfl ag9 (by assumption) (by decide) ?_
              refine lw_lenString rfl Try.underlying9 (by decide) ?_
              refine lw_gtr rfl (by decide) ?_
              refine lw_nil ?_
              refine pw_then ?_
              refine cw_cond rfl (fun _ => ?_) (fun h => ?_)
              · skip
                refine cw_seq ?_
                refine cw_region ?_
                refine lw_const (by decide) ?_
                refine lw_nil ?_
                refine pw_then ?_
                refine cw_ret ?_
                refine pw_then_ret ?_
                refine pw_pass_ret hpc2 ?_
                refine pw_pass_ret hpc1 ?_
                exact pw_result rfl rfl ⟨retB _, rfl⟩
              clear h
              refine cw_sub (sub_cons (t := 0) rfl (sub_cons (t := 1) rfl (sub_cons (t := 2) rfl (sub_cons (t := 3) rfl (sub_cons (t := 4) rfl (sub_cons (t := 5) rfl (sub_cons (t := 13) rfl (sub_nil _)))))))) ?_
              refine cw_skip ?_
              refine pw_then ?_
              refine cw_seq ?_
              refine cw_region ?_
              refine lw_move rfl (by decide) ?_
              refine lw_move rfl (by decide) ?_
              refine lw_nilCheck rfl (by decide) ?_
              refine f75_0 rfl (by decide) ?_
              refine lw_load rfl ag73 (by assumption) (by decide) ?_
              refine lw_nilCheck rfl (by decide) ?_
              refine f77_2 rfl (by decide) ?_
              refine lw_load rfl ag9 (by assumption) (by decide) ?_
              refine lw_lenString rfl Try.underlying9 (by decide) ?_
              refine lw_add rfl rfl (by decide) ?_
              refine lw_assign rfl (by decide) ?_
              refine lw_nil ?_
              refine pw_then ?_
              refine cw_seq ?_
              refine cw_region ?_
              refine lw_move rfl (by decide) ?_
              refine lw_gtr rfl (by decide) ?_
              refine lw_nil ?_
              refine pw_then ?_
              refine cw_cond rfl (fun _ => ?_) (fun h => ?_)
              · skip
                refine cw_seq ?_
                refine cw_region ?_
                refine lw_const (by decide) ?_
                refine lw_nil ?_
                refine pw_then ?_
                refine cw_ret ?_
                refine pw_pass_ret hpc2 ?_
                refine pw_pass_ret hpc1 ?_
                exact pw_result rfl rfl ⟨retB _, rfl⟩
              clear h
              refine cw_sub (sub_cons (t := 0) rfl (sub_cons (t := 1) rfl (sub_cons (t := 2) rfl (sub_cons (t := 3) rfl (sub_cons (t := 4) rfl (sub_cons (t := 5) rfl (sub_cons (t := 13) rfl (sub_nil _)))))))) ?_
              refine cw_skip ?_
              exact hec2 _ _ rfl (sub_cons (t := 0) rfl (sub_cons (t := 1) rfl (sub_cons (t := 2) rfl (sub_cons (t := 3) rfl (sub_cons (t := 4) rfl (sub_cons (t := 5) rfl (sub_nil _)))))))
          · refine cw_sub (sub_cons (t := 0) rfl (sub_cons (t := 1) rfl (sub_cons (t := 2) rfl (sub_cons (t := 3) rfl (sub_cons (t := 4) rfl (sub_cons (t := 5) rfl (sub_cons (t := 13) rfl (sub_nil _)))))))) ?_
            refine cw_cut (z := 13) (sub_cons (t := 0) rfl (sub_cons (t := 1) rfl (sub_cons (t := 2) rfl (sub_cons (t := 3) rfl (sub_cons (t := 4) rfl (sub_cons (t := 5) rfl (sub_nil _))))))) (fun Kc3 hpc3 hec3 => ?_) (fun qc3 => ?_)
            · rcases hh1 with rfl | ⟨bh1, oh1, rfl, _, nh1, fh1, dh1, ch01, ch11, ch21, _, _⟩
              · skip
                refine cw_seq ?_
                refine cw_region ?_
                refine lw_move rfl (by decide) ?_
                refine lw_nilCheck rfl (by decide) ?_
                refine f75_1 rfl (by decide) ?_
                refine lw_load rfl ag73 (by assumption) (by decide) ?_
                refine lw_neqNil rfl Try.underlying73 (by decide) ?_
                refine lw_nil ?_
                refine pw_then ?_
                refine cw_cond rfl (fun h => by simp at h) (fun _ => ?_)
                refine cw_skip ?_
                exact hec3 _ _ rfl (sub_cons (t := 0) rfl (sub_cons (t := 1) rfl (sub_cons (t := 2) rfl (sub_cons (t := 3) rfl (sub_cons (t := 4) rfl (sub_cons (t := 5) rfl (sub_nil _)))))))
              · skip
                refine cw_seq ?_
                refine cw_region ?_
                refine lw_move rfl (by decide) ?_
                refine lw_nilCheck rfl (by decide) ?_
                refine f75_1 rfl (by decide) ?_
                refine lw_load rfl ag73 (by assumption) (by decide) ?_
                refine lw_neqNil rfl Try.underlying73 (by decide) ?_
                refine lw_nil ?_
                refine pw_then ?_
                refine cw_cond rfl (fun _ => ?_) (fun h => by simp at h)
                refine cw_sub (sub_cons (t := 0) rfl (sub_cons (t := 1) rfl (sub_cons (t := 2) rfl (sub_cons (t := 3) rfl (sub_cons (t := 4) rfl (sub_cons (t := 5) rfl (sub_cons (t := 13) rfl (sub_nil _)))))))) ?_
                refine cw_seq ?_
                refine cw_seq ?_
                refine cw_region ?_
                refine lw_move rfl (by decide) ?_
                refine lw_nilCheck rfl (by decide) ?_
                refine f75_1 rfl (by decide) ?_
                refine lw_load rfl ag73 (by assumption) (by decide) ?_
                refine lw_nilCheck rfl (by decide) ?_
                refine f77_1 rfl (by decide) ?_
                refine lw_load rfl ag9 (by assumption) (by decide) ?_
                refine lw_lenString rfl Try.underlying9 (by decide) ?_
                refine lw_gtr rfl (by decide) ?_
                refine lw_nil ?_
                refine pw_then ?_
                refine cw_cond rfl (fun _ => ?_) (fun h => ?_)
                · skip
                  refine cw_seq ?_
                  refine cw_region ?_
                  refine lw_const (by decide) ?_
                  refine lw_nil ?_
                  refine pw_then ?_
                  refine cw_ret ?_
                  refine pw_then_ret ?_
                  refine pw_pass_ret hpc3 ?_
                  refine pw_pass_ret hpc1 ?_
                  exact pw_result rfl rfl ⟨retB _, rfl⟩
                clear h
                refine cw_sub (sub_cons (t := 0) rfl (sub_cons (t := 1) rfl (sub_cons (t := 2) rfl (sub_cons (t := 3) rfl (sub_cons (t := 4) rfl (sub_cons (t := 5) rfl (sub_cons (t := 13) rfl (sub_nil _)))))))) ?_
                refine cw_skip ?_
                refine pw_then ?_
                refine cw_seq ?_
                refine cw_region ?_
                refine lw_move rfl (by decide) ?_
                refine lw_move rfl (by decide) ?_
                refine lw_nilCheck rfl (by decide) ?_
                refine f75_1 rfl (by decide) ?_
                refine lw_load rfl ag73 (by assumption) (by decide) ?_
                refine lw_nilCheck rfl (by decide) ?_
                refine f77_1 rfl (by decide) ?_
                refine lw_load rfl ag9 (by assumption) (by decide) ?_
                refine lw_lenString rfl Try.underlying9 (by decide) ?_
                refine lw_add rfl rfl (by decide) ?_
                refine lw_assign rfl (by decide) ?_
                refine lw_nil ?_
                refine pw_then ?_
                refine cw_seq ?_
                refine cw_seq ?_
                refine cw_region ?_
                refine lw_move rfl (by decide) ?_
                refine lw_gtr rfl (by decide) ?_
                refine lw_nil ?_
                refine pw_then ?_
                refine cw_cond rfl (fun _ => ?_) (fun h => ?_)
                · skip
                  refine cw_seq ?_
                  refine cw_region ?_
                  refine lw_const (by decide) ?_
                  refine lw_nil ?_
                  refine pw_then ?_
                  refine cw_ret ?_
                  refine pw_then_ret ?_
                  refine pw_pass_ret hpc3 ?_
                  refine pw_pass_ret hpc1 ?_
                  exact pw_result rfl rfl ⟨retB _, rfl⟩
                clear h
                refine cw_sub (sub_cons (t := 0) rfl (sub_cons (t := 1) rfl (sub_cons (t := 2) rfl (sub_cons (t := 3) rfl (sub_cons (t := 4) rfl (sub_cons (t := 5) rfl (sub_cons (t := 13) rfl (sub_nil _)))))))) ?_
                refine cw_skip ?_
                refine pw_then ?_
                refine cw_seq ?_
                refine cw_seq ?_
                refine cw_region ?_
                refine lw_move rfl (by decide) ?_
                refine lw_nilCheck rfl (by decide) ?_
                refine f75_1 rfl (by decide) ?_
                refine lw_load rfl ag73 (by assumption) (by decide) ?_
                refine lw_nilCheck rfl (by decide) ?_
                refine f77_2 rfl (by decide) ?_
                refine lw_load rfl ag9 (by assumption) (by decide) ?_
                refine lw_lenString rfl Try.underlying9 (by decide) ?_
                refine lw_gtr rfl (by decide) ?_
                refine lw_nil ?_
                refine pw_then ?_
                refine cw_cond rfl (fun _ => ?_) (fun h => ?_)
                · skip
                  refine cw_seq ?_
                  refine cw_region ?_
                  refine lw_const (by decide) ?_
                  refine lw_nil ?_
                  refine pw_then ?_
                  refine cw_ret ?_
                  refine pw_then_ret ?_
                  refine pw_pass_ret hpc3 ?_
                  refine pw_pass_ret hpc1 ?_
                  exact pw_result rfl rfl ⟨retB _, rfl⟩
                clear h
                refine cw_sub (sub_cons (t := 0) rfl (sub_cons (t := 1) rfl (sub_cons (t := 2) rfl (sub_cons (t := 3) rfl (sub_cons (t := 4) rfl (sub_cons (t := 5) rfl (sub_cons (t := 13) rfl (sub_nil _)))))))) ?_
                refine cw_skip ?_
                refine pw_then ?_
                refine cw_seq ?_
                refine cw_region ?_
                refine lw_move rfl (by decide) ?_
                refine lw_move rfl (by decide) ?_
                refine lw_nilCheck rfl (by decide) ?_
                refine f75_1 rfl (by decide) ?_
                refine lw_load rfl ag73 (by assumption) (by decide) ?_
                refine lw_nilCheck rfl (by decide) ?_
                refine f77_2 rfl (by decide) ?_
                refine lw_load rfl ag9 (by assumption) (by decide) ?_
                refine lw_lenString rfl Try.underlying9 (by decide) ?_
                refine lw_add rfl rfl (by decide) ?_
                refine lw_assign rfl (by decide) ?_
                refine lw_nil ?_
                refine pw_then ?_
                refine cw_seq ?_
                refine cw_region ?_
                refine lw_move rfl (by decide) ?_
                refine lw_gtr rfl (by decide) ?_
                refine lw_nil ?_
                refine pw_then ?_
                refine cw_cond rfl (fun _ => ?_) (fun h => ?_)
                · skip
                  refine cw_seq ?_
                  refine cw_region ?_
                  refine lw_const (by decide) ?_
                  refine lw_nil ?_
                  refine pw_then ?_
                  refine cw_ret ?_
                  refine pw_pass_ret hpc3 ?_
                  refine pw_pass_ret hpc1 ?_
                  exact pw_result rfl rfl ⟨retB _, rfl⟩
                clear h
                refine cw_sub (sub_cons (t := 0) rfl (sub_cons (t := 1) rfl (sub_cons (t := 2) rfl (sub_cons (t := 3) rfl (sub_cons (t := 4) rfl (sub_cons (t := 5) rfl (sub_cons (t := 13) rfl (sub_nil _)))))))) ?_
                refine cw_skip ?_
                exact hec3 _ _ rfl (sub_cons (t := 0) rfl (sub_cons (t := 1) rfl (sub_cons (t := 2) rfl (sub_cons (t := 3) rfl (sub_cons (t := 4) rfl (sub_cons (t := 5) rfl (sub_nil _)))))))
            · refine cw_sub (sub_cons (t := 0) rfl (sub_cons (t := 1) rfl (sub_cons (t := 2) rfl (sub_cons (t := 3) rfl (sub_cons (t := 4) rfl (sub_cons (t := 5) rfl (sub_cons (t := 13) rfl (sub_nil _)))))))) ?_
              rcases hh2 with rfl | ⟨bh2, oh2, rfl, _, nh2, fh2, dh2, ch02, ch12, ch22, _, _⟩
              · skip
                refine cw_seq ?_
                refine cw_region ?_
                refine lw_move rfl (by decide) ?_
                refine lw_nilCheck rfl (by decide) ?_
                refine f75_2 rfl (by decide) ?_
                refine lw_load rfl ag73 (by assumption) (by decide) ?_
                refine lw_neqNil rfl Try.underlying73 (by decide) ?_
                refine lw_nil ?_
                refine pw_then ?_
                refine cw_cond rfl (fun h => by simp at h) (fun _ => ?_)
                refine cw_skip ?_
                exact hec1 _ _ rfl (sub_cons (t := 0) rfl (sub_cons (t := 1) rfl (sub_cons (t := 2) rfl (sub_cons (t := 3) rfl (sub_cons (t := 4) rfl (sub_cons (t := 5) rfl (sub_nil _)))))))
              · skip
                refine cw_seq ?_
                refine cw_region ?_
                refine lw_move rfl (by decide) ?_
                refine lw_nilCheck rfl (by decide) ?_
                refine f75_2 rfl (by decide) ?_
                refine lw_load rfl ag73 (by assumption) (by decide) ?_
                refine lw_neqNil rfl Try.underlying73 (by decide) ?_
                refine lw_nil ?_
                refine pw_then ?_
                refine cw_cond rfl (fun _ => ?_) (fun h => by simp at h)
                refine cw_sub (sub_cons (t := 0) rfl (sub_cons (t := 1) rfl (sub_cons (t := 2) rfl (sub_cons (t := 3) rfl (sub_cons (t := 4) rfl (sub_cons (t := 5) rfl (sub_cons (t := 13) rfl (sub_nil _)))))))) ?_
                refine cw_seq ?_
                refine cw_seq ?_
                refine cw_region ?_
                refine lw_move rfl (by decide) ?_
                refine lw_nilCheck rfl (by decide) ?_
                refine f75_2 rfl (by decide) ?_
                refine lw_load rfl ag73 (by assumption) (by decide) ?_
                refine lw_nilCheck rfl (by decide) ?_
                refine f77_1 rfl (by decide) ?_
                refine lw_load rfl ag9 (by assumption) (by decide) ?_
                refine lw_lenString rfl Try.underlying9 (by decide) ?_
                refine lw_gtr rfl (by decide) ?_
                refine lw_nil ?_
                refine pw_then ?_
                refine cw_cond rfl (fun _ => ?_) (fun h => ?_)
                · skip
                  refine cw_seq ?_
                  refine cw_region ?_
                  refine lw_const (by decide) ?_
                  refine lw_nil ?_
                  refine pw_then ?_
                  refine cw_ret ?_
                  refine pw_then_ret ?_
                  refine pw_pass_ret hpc1 ?_
                  exact pw_result rfl rfl ⟨retB _, rfl⟩
                clear h
                refine cw_sub (sub_cons (t := 0) rfl (sub_cons (t := 1) rfl (sub_cons (t := 2) rfl (sub_cons (t := 3) rfl (sub_cons (t := 4) rfl (sub_cons (t := 5) rfl (sub_cons (t := 13) rfl (sub_nil _)))))))) ?_
                refine cw_skip ?_
                refine pw_then ?_
                refine cw_seq ?_
                refine cw_region ?_
                refine lw_move rfl (by decide) ?_
                refine lw_move rfl (by decide) ?_
                refine lw_nilCheck rfl (by decide) ?_
                refine f75_2 rfl (by decide) ?_
                refine lw_load rfl ag73 (by assumption) (by decide) ?_
                refine lw_nilCheck rfl (by decide) ?_
                refine f77_1 rfl (by decide) ?_
                refine lw_load rfl ag9 (by assumption) (by decide) ?_
                refine lw_lenString rfl Try.underlying9 (by decide) ?_
                refine lw_add rfl rfl (by decide) ?_
                refine lw_assign rfl (by decide) ?_
                refine lw_nil ?_
                refine pw_then ?_
                refine cw_seq ?_
                refine cw_seq ?_
                refine cw_region ?_
                refine lw_move rfl (by decide) ?_
                refine lw_gtr rfl (by decide) ?_
                refine lw_nil ?_
                refine pw_then ?_
                refine cw_cond rfl (fun _ => ?_) (fun h => ?_)
                · skip
                  refine cw_seq ?_
                  refine cw_region ?_
                  refine lw_const (by decide) ?_
                  refine lw_nil ?_
                  refine pw_then ?_
                  refine cw_ret ?_
                  refine pw_then_ret ?_
                  refine pw_pass_ret hpc1 ?_
                  exact pw_result rfl rfl ⟨retB _, rfl⟩
                clear h
                refine cw_sub (sub_cons (t := 0) rfl (sub_cons (t := 1) rfl (sub_cons (t := 2) rfl (sub_cons (t := 3) rfl (sub_cons (t := 4) rfl (sub_cons (t := 5) rfl (sub_cons (t := 13) rfl (sub_nil _)))))))) ?_
                refine cw_skip ?_
                refine pw_then ?_
                refine cw_seq ?_
                refine cw_seq ?_
                refine cw_region ?_
                refine lw_move rfl (by decide) ?_
                refine lw_nilCheck rfl (by decide) ?_
                refine f75_2 rfl (by decide) ?_
                refine lw_load rfl ag73 (by assumption) (by decide) ?_
                refine lw_nilCheck rfl (by decide) ?_
                refine f77_2 rfl (by decide) ?_
                refine lw_load rfl ag9 (by assumption) (by decide) ?_
                refine lw_lenString rfl Try.underlying9 (by decide) ?_
                refine lw_gtr rfl (by decide) ?_
                refine lw_nil ?_
                refine pw_then ?_
                refine cw_cond rfl (fun _ => ?_) (fun h => ?_)
                · skip
                  refine cw_seq ?_
                  refine cw_region ?_
                  refine lw_const (by decide) ?_
                  refine lw_nil ?_
                  refine pw_then ?_
                  refine cw_ret ?_
                  refine pw_then_ret ?_
                  refine pw_pass_ret hpc1 ?_
                  exact pw_result rfl rfl ⟨retB _, rfl⟩
                clear h
                refine cw_sub (sub_cons (t := 0) rfl (sub_cons (t := 1) rfl (sub_cons (t := 2) rfl (sub_cons (t := 3) rfl (sub_cons (t := 4) rfl (sub_cons (t := 5) rfl (sub_cons (t := 13) rfl (sub_nil _)))))))) ?_
                refine cw_skip ?_
                refine pw_then ?_
                refine cw_seq ?_
                refine cw_region ?_
                refine lw_move rfl (by decide) ?_
                refine lw_move rfl (by decide) ?_
                refine lw_nilCheck rfl (by decide) ?_
                refine f75_2 rfl (by decide) ?_
                refine lw_load rfl ag73 (by assumption) (by decide) ?_
                refine lw_nilCheck rfl (by decide) ?_
                refine f77_2 rfl (by decide) ?_
                refine lw_load rfl ag9 (by assumption) (by decide) ?_
                refine lw_lenString rfl Try.underlying9 (by decide) ?_
                refine lw_add rfl rfl (by decide) ?_
                refine lw_assign rfl (by decide) ?_
                refine lw_nil ?_
                refine pw_then ?_
                refine cw_seq ?_
                refine cw_region ?_
                refine lw_move rfl (by decide) ?_
                refine lw_gtr rfl (by decide) ?_
                refine lw_nil ?_
                refine pw_then ?_
                refine cw_cond rfl (fun _ => ?_) (fun h => ?_)
                · skip
                  refine cw_seq ?_
                  refine cw_region ?_
                  refine lw_const (by decide) ?_
                  refine lw_nil ?_
                  refine pw_then ?_
                  refine cw_ret ?_
                  refine pw_pass_ret hpc1 ?_
                  exact pw_result rfl rfl ⟨retB _, rfl⟩
                clear h
                refine cw_sub (sub_cons (t := 0) rfl (sub_cons (t := 1) rfl (sub_cons (t := 2) rfl (sub_cons (t := 3) rfl (sub_cons (t := 4) rfl (sub_cons (t := 5) rfl (sub_cons (t := 13) rfl (sub_nil _)))))))) ?_
                refine cw_skip ?_
                exact hec1 _ _ rfl (sub_cons (t := 0) rfl (sub_cons (t := 1) rfl (sub_cons (t := 2) rfl (sub_cons (t := 3) rfl (sub_cons (t := 4) rfl (sub_cons (t := 5) rfl (sub_nil _)))))))
      · refine cw_sub (sub_cons (t := 0) rfl (sub_cons (t := 1) rfl (sub_cons (t := 2) rfl (sub_cons (t := 3) rfl (sub_cons (t := 4) rfl (sub_cons (t := 5) rfl (sub_cons (t := 13) rfl (sub_nil _)))))))) ?_
        refine cw_seq ?_
        refine cw_seq ?_
        refine cw_region ?_
        refine lw_move rfl (by decide) ?_
        refine lw_lenString rfl Try.underlying9 (by decide) ?_
        refine lw_gtr rfl (by decide) ?_
        refine lw_nil ?_
        refine pw_then ?_
        refine cw_cond rfl (fun _ => ?_) (fun h => ?_)
        · skip
          refine cw_seq ?_
          refine cw_region ?_
          refine lw_const (by decide) ?_
          refine lw_nil ?_
          refine pw_then ?_
          refine cw_ret ?_
          refine pw_then_ret ?_
          exact pw_result rfl rfl ⟨retB _, rfl⟩
        clear h
        refine cw_sub (sub_cons (t := 0) rfl (sub_cons (t := 1) rfl (sub_cons (t := 2) rfl (sub_cons (t := 3) rfl (sub_cons (t := 4) rfl (sub_cons (t := 5) rfl (sub_cons (t := 13) rfl (sub_nil _)))))))) ?_
        refine cw_skip ?_
        refine pw_then ?_
        refine cw_seq ?_
        refine cw_region ?_
        refine lw_move rfl (by decide) ?_
        refine lw_move rfl (by decide) ?_
        refine lw_lenString rfl Try.underlying9 (by decide) ?_
        refine lw_add rfl rfl (by decide) ?_
        refine lw_assign rfl (by decide) ?_
        refine lw_nil ?_
        refine pw_then ?_
        refine cw_seq ?_
        refine cw_seq ?_
        refine cw_region ?_
        refine lw_move rfl (by decide) ?_
        refine lw_gtr rfl (by decide) ?_
        refine lw_nil ?_
        refine pw_then ?_
        refine cw_cond rfl (fun _ => ?_) (fun h => ?_)
        · skip
          refine cw_seq ?_
          refine cw_region ?_
          refine lw_const (by decide) ?_
          refine lw_nil ?_
          refine pw_then ?_
          refine cw_ret ?_
          refine pw_then_ret ?_
          exact pw_result rfl rfl ⟨retB _, rfl⟩
        clear h
        refine cw_sub (sub_cons (t := 0) rfl (sub_cons (t := 1) rfl (sub_cons (t := 2) rfl (sub_cons (t := 3) rfl (sub_cons (t := 4) rfl (sub_cons (t := 5) rfl (sub_cons (t := 13) rfl (sub_nil _)))))))) ?_
        refine cw_skip ?_
        refine pw_then ?_
        refine cw_seq ?_
        refine cw_region ?_
        refine lw_const (by decide) ?_
        refine lw_nil ?_
        refine pw_then ?_
        refine cw_ret ?_
        exact pw_result rfl rfl ⟨retB _, rfl⟩
end Go.Proofs.Qxb6604078a
