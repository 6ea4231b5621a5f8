import Derived.Test.Qxb6604078aW3
namespace Go.Proofs.Qxb6604078a
open Go.RowKit Go.Proofs.Qxb6604078a.Env

set_option maxRecDepth 100000 in
set_option maxHeartbeats 4000000 in
theorem bytes12_any (a : Option Addr) (n c : Nat) (R : Nat → RouteV) (w : World) (h : Rts w a n c R) :
    Calls Try.prog 12 #[.slice a n c] w fun e w' => RetB e ∧ w = w' := by
  have hc := h.le
  have hm := h.cap
  have ha := h.here
  clear h
  refine calls_env (N := 461) (env := [(0, .slice a n c)]) Try.func12 rfl rfl (by simp) (args_one _) ?_
  refine cw_seq ?_
  refine cw_region ?_
  refine lw_const (by decide) ?_
  refine lw_nil ?_
  refine pw_then ?_
  refine cw_seq ?_
  refine cw_region ?_
  refine lw_const (by decide) ?_
  refine lw_nil ?_
  refine pw_then ?_
  refine cw_seq ?_
  refine cw_seq ?_
  refine cw_region ?_
  refine lw_move rfl (by decide) ?_
  refine lw_lenSlice rfl Try.underlying23 (by decide) ?_
  refine lw_gtr rfl (by decide) ?_
  refine lw_nil ?_
  refine pw_then ?_
  refine cw_cond rfl (fun _ => ?_) (fun h => ?_)
  · skip
    refine cw_seq ?_
    refine cw_region ?_
    refine lw_const (by decide) ?_
    refine lw_nil ?_
    refine pw_then ?_
    refine cw_ret ?_
    refine pw_then_ret ?_
    exact pw_result rfl rfl ⟨retB _, rfl⟩
  clear h
  refine cw_sub (sub_cons (t := 0) rfl (sub_cons (t := 3) rfl (sub_nil _))) ?_
  refine cw_skip ?_
  refine pw_then ?_
  refine cw_seq ?_
  refine cw_region ?_
  refine lw_move rfl (by decide) ?_
  refine lw_move rfl (by decide) ?_
  refine lw_lenSlice rfl Try.underlying23 (by decide) ?_
  refine lw_add rfl rfl (by decide) ?_
  refine lw_assign rfl (by decide) ?_
  refine lw_nil ?_
  refine pw_then ?_
  refine cw_seq ?_
  refine cw_seq ?_
  refine cw_region ?_
  refine lw_move rfl (by decide) ?_
  refine lw_gtr rfl (by decide) ?_
  refine lw_nil ?_
  refine pw_then ?_
  refine cw_cond rfl (fun _ => ?_) (fun h => ?_)
  · skip
    refine cw_seq ?_
    refine cw_region ?_
    refine lw_const (by decide) ?_
    refine lw_nil ?_
    refine pw_then ?_
    refine cw_ret ?_
    refine pw_then_ret ?_
    exact pw_result rfl rfl ⟨retB _, rfl⟩
  clear h
  refine cw_sub (sub_cons (t := 0) rfl (sub_cons (t := 3) rfl (sub_nil _))) ?_
  refine cw_skip ?_
  refine pw_then ?_
  refine cw_seq ?_
  refine cw_seq ?_
  refine cw_region ?_
  refine lw_const (by decide) ?_
  refine lw_nil ?_
  refine pw_then ?_
  refine cw_block ?_
  refine cw_loop (z := 3) (i := 4) (n := n) (fun _ _ => True) (by decide) rfl rfl (sub_cons (t := 0) rfl (sub_nil _)) trivial ?_
  intro q1 k1 hk1 _ K1 hp1 he1
  by_cases hlt1 : k1 < n
  · obtain ⟨b1, o1, hao1, _, hat1⟩ := ha (by omega)
    have hc1 := hat1 k1 hlt1
    generalize R k1 = d1 at hc1
    obtain ⟨bo1, ti1, sa1, sn1, sc1, S1, ta1, tn1, tc1, T1⟩ := d1
    obtain ⟨x01, x11, x21, x31, y01, y11, s01, s11⟩ := hc1
    simp only at x01 x11 x21 x31 y01 y11 s01 s11
    obtain ⟨k11, k21, -, k41⟩ := s01
    obtain ⟨d11, d21, -, d41⟩ := s11
    subst hao1
    clear hat1 ha
    refine cw_seq ?_
    refine cw_seq ?_
    refine cw_region ?_
    refine lw_move rfl (by decide) ?_
    refine lw_move rfl (by decide) ?_
    refine lw_lenSlice rfl Try.underlying23 (by decide) ?_
    refine lw_lss rfl rfl (by decide) ?_
    refine lw_nil ?_
    refine pw_then ?_
    refine cw_cond rfl (fun _ => ?_) (fun h => by have := of_decide_eq_false h; omega)
    refine cw_sub (sub_cons (t := 0) rfl (sub_cons (t := 3) rfl (sub_cons (t := 4) rfl (sub_nil _)))) ?_
    refine cw_skip ?_
    refine pw_then ?_
    refine cw_seq ?_
    refine cw_block ?_
    refine cw_seq ?_
    refine cw_seq ?_
    refine cw_region ?_
    refine lw_move rfl (by decide) ?_
    refine lw_move rfl (by decide) ?_
    refine i23 rfl rfl (by assumption) (by decide) ?_
    refine f34_0 rfl (by decide) ?_
    refine lw_load rfl ag9 (by assumption) (by decide) ?_
    refine lw_lenString rfl Try.underlying9 (by decide) ?_
    refine lw_gtr rfl (by decide) ?_
    refine lw_nil ?_
    refine pw_then ?_
    refine cw_cond rfl (fun _ => ?_) (fun h => ?_)
    · skip
      refine cw_seq ?_
      refine cw_region ?_
      refine lw_const (by decide) ?_
      refine lw_nil ?_
      refine pw_then ?_
      refine cw_ret ?_
      refine pw_then_ret ?_
      refine pw_block_ret ?_
      refine pw_then_ret ?_
      refine pw_pass_ret hp1 ?_
      refine pw_block_ret ?_
      refine pw_then_ret ?_
      exact pw_result rfl rfl ⟨retB _, rfl⟩
    clear h
    refine cw_sub (sub_cons (t := 0) rfl (sub_cons (t := 3) rfl (sub_cons (t := 4) rfl (sub_nil _)))) ?_
    refine cw_skip ?_
    refine pw_then ?_
    refine cw_seq ?_
    refine cw_region ?_
    refine lw_move rfl (by decide) ?_
    refine lw_move rfl (by decide) ?_
    refine lw_move rfl (by decide) ?_
    refine i23 rfl rfl (by assumption) (by decide) ?_
    refine f34_0 rfl (by decide) ?_
    refine lw_load rfl ag9 (by assumption) (by decide) ?_
    refine lw_lenString rfl Try.underlying9 (by decide) ?_
    refine lw_add rfl rfl (by decide) ?_
    refine lw_assign rfl (by decide) ?_
    refine lw_nil ?_
    refine pw_then ?_
    refine cw_seq ?_
    refine cw_seq ?_
    refine cw_region ?_
    refine lw_move rfl (by decide) ?_
    refine lw_gtr rfl (by decide) ?_
    refine lw_nil ?_
    refine pw_then ?_
    refine cw_cond rfl (fun _ => ?_) (fun h => ?_)
    · skip
      refine cw_seq ?_
      refine cw_region ?_
      refine lw_const (by decide) ?_
      refine lw_nil ?_
      refine pw_then ?_
      refine cw_ret ?_
      refine pw_then_ret ?_
      refine pw_block_ret ?_
      refine pw_then_ret ?_
      refine pw_pass_ret hp1 ?_
      refine pw_block_ret ?_
      refine pw_then_ret ?_
      exact pw_result rfl rfl ⟨retB _, rfl⟩
    clear h
    refine cw_sub (sub_cons (t := 0) rfl (sub_cons (t := 3) rfl (sub_cons (t := 4) rfl (sub_nil _)))) ?_
    refine cw_skip ?_
    refine pw_then ?_
    refine cw_seq ?_
    refine cw_seq ?_
    refine cw_region ?_
    refine lw_move rfl (by decide) ?_
    refine lw_move rfl (by decide) ?_
    refine i23 rfl rfl (by assumption) (by decide) ?_
    refine f34_1 rfl (by decide) ?_
    refine lw_load rfl ag9 (by assumption) (by decide) ?_
    refine lw_lenString rfl Try.underlying9 (by decide) ?_
    refine lw_gtr rfl (by decide) ?_
    refine lw_nil ?_
    refine pw_then ?_
    refine cw_cond rfl (fun _ => ?_) (fun h => ?_)
    · skip
      refine cw_seq ?_
      refine cw_region ?_
      refine lw_const (by decide) ?_
      refine lw_nil ?_
      refine pw_then ?_
      refine cw_ret ?_
      refine pw_then_ret ?_
      refine pw_block_ret ?_
      refine pw_then_ret ?_
      refine pw_pass_ret hp1 ?_
      refine pw_block_ret ?_
      refine pw_then_ret ?_
      exact pw_result rfl rfl ⟨retB _, rfl⟩
    clear h
    refine cw_sub (sub_cons (t := 0) rfl (sub_cons (t := 3) rfl (sub_cons (t := 4) rfl (sub_nil _)))) ?_
    refine cw_skip ?_
    refine pw_then ?_
    refine cw_seq ?_
    refine cw_region ?_
    refine lw_move rfl (by decide) ?_
    refine lw_move rfl (by decide) ?_
    refine lw_move rfl (by decide) ?_
    refine i23 rfl rfl (by assumption) (by decide) ?_
    refine f34_1 rfl (by decide) ?_
    refine lw_load rfl ag9 (by assumption) (by decide) ?_
    refine lw_lenString rfl Try.underlying9 (by decide) ?_
    refine lw_add rfl rfl (by decide) ?_
    refine lw_assign rfl (by decide) ?_
    refine lw_nil ?_
    refine pw_then ?_
    refine cw_seq ?_
    refine cw_seq ?_
    refine cw_region ?_
    refine lw_move rfl (by decide) ?_
    refine lw_gtr rfl (by decide) ?_
    refine lw_nil ?_
    refine pw_then ?_
    refine cw_cond rfl (fun _ => ?_) (fun h => ?_)
    · skip
      refine cw_seq ?_
      refine cw_region ?_
      refine lw_const (by decide) ?_
      refine lw_nil ?_
      refine pw_then ?_
      refine cw_ret ?_
      refine pw_then_ret ?_
      refine pw_block_ret ?_
      refine pw_then_ret ?_
      refine pw_pass_ret hp1 ?_
      refine pw_block_ret ?_
      refine pw_then_ret ?_
      exact pw_result rfl rfl ⟨retB _, rfl⟩
    clear h
    refine cw_sub (sub_cons (t := 0) rfl (sub_cons (t := 3) rfl (sub_cons (t := 4) rfl (sub_nil _)))) ?_
    refine cw_skip ?_
    refine pw_then ?_
    refine cw_seq ?_
    refine cw_seq ?_
    refine cw_region ?_
    refine lw_move rfl (by decide) ?_
    refine lw_move rfl (by decide) ?_
    refine i23 rfl rfl (by assumption) (by decide) ?_
    refine f34_2 rfl (by decide) ?_
    refine lw_load rfl ag31 (by assumption) (by decide) ?_
    refine lw_lenSlice rfl Try.underlying31 (by decide) ?_
    refine lw_gtr rfl (by decide) ?_
    refine lw_nil ?_
    refine pw_then ?_
    refine cw_cond rfl (fun _ => ?_) (fun h => ?_)
    · skip
      refine cw_seq ?_
      refine cw_region ?_
      refine lw_const (by decide) ?_
      refine lw_nil ?_
      refine pw_then ?_
      refine cw_ret ?_
      refine pw_then_ret ?_
      refine pw_block_ret ?_
      refine pw_then_ret ?_
      refine pw_pass_ret hp1 ?_
      refine pw_block_ret ?_
      refine pw_then_ret ?_
      exact pw_result rfl rfl ⟨retB _, rfl⟩
    clear h
    refine cw_sub (sub_cons (t := 0) rfl (sub_cons (t := 3) rfl (sub_cons (t := 4) rfl (sub_nil _)))) ?_
    refine cw_skip ?_
    refine pw_then ?_
    refine cw_seq ?_
    refine cw_region ?_
    refine lw_move rfl (by decide) ?_
    refine lw_move rfl (by decide) ?_
    refine lw_move rfl (by decide) ?_
    refine i23 rfl rfl (by assumption) (by decide) ?_
    refine f34_2 rfl (by decide) ?_
    refine lw_load rfl ag31 (by assumption) (by decide) ?_
    refine lw_lenSlice rfl Try.underlying31 (by decide) ?_
    refine lw_add rfl rfl (by decide) ?_
    refine lw_assign rfl (by decide) ?_
    refine lw_nil ?_
    refine pw_then ?_
    refine cw_seq ?_
    refine cw_seq ?_
    refine cw_region ?_
    refine lw_move rfl (by decide) ?_
    refine lw_gtr rfl (by decide) ?_
    refine lw_nil ?_
    refine pw_then ?_
    refine cw_cond rfl (fun _ => ?_) (fun h => ?_)
    · skip
      refine cw_seq ?_
      refine cw_region ?_
      refine lw_const (by decide) ?_
      refine lw_nil ?_
      refine pw_then ?_
      refine cw_ret ?_
      refine pw_then_ret ?_
      refine pw_block_ret ?_
      refine pw_then_ret ?_
      refine pw_pass_ret hp1 ?_
      refine pw_block_ret ?_
      refine pw_then_ret ?_
      exact pw_result rfl rfl ⟨retB _, rfl⟩
    clear h
    refine cw_sub (sub_cons (t := 0) rfl (sub_cons (t := 3) rfl (sub_cons (t := 4) rfl (sub_nil _)))) ?_
    refine cw_skip ?_
    refine pw_then ?_
    refine cw_seq ?_
    refine cw_seq ?_
    refine cw_region ?_
    refine lw_const (by decide) ?_
    refine lw_nil ?_
    refine pw_then ?_
    refine cw_block ?_
    refine cw_loop (z := 3) (i := 5) (n := sn1) (fun _ _ => True) (by decide) rfl rfl (sub_cons (t := 0) rfl (sub_cons (t := 4) rfl (sub_nil _))) trivial ?_
    intro q2 k2 hk2 _ K2 hp2 he2
    by_cases hlt2 : k2 < sn1
    · obtain ⟨b2, o2, hao2, _, hat2⟩ := k41 (by omega)
      have hc2 := hat2 k2 hlt2
      generalize S1 k2 = d2 at hc2
      obtain ⟨dx2, dy2⟩ := d2
      obtain ⟨x02, x12, y02, y12⟩ := hc2
      simp only at x02 x12 y02 y12
      subst hao2
      clear hat2 k41
      refine cw_seq ?_
      refine cw_seq ?_
      refine cw_region ?_
      refine lw_move rfl (by decide) ?_
      refine lw_move rfl (by decide) ?_
      refine lw_move rfl (by decide) ?_
      refine i23 rfl rfl (by assumption) (by decide) ?_
      refine f34_2 rfl (by decide) ?_
      refine lw_load rfl ag31 (by assumption) (by decide) ?_
      refine lw_lenSlice rfl Try.underlying31 (by decide) ?_
      refine lw_lss rfl rfl (by decide) ?_
      refine lw_nil ?_
      refine pw_then ?_
      refine cw_cond rfl (fun _ => ?_) (fun h => by have := of_decide_eq_false h; omega)
      refine cw_sub (sub_cons (t := 0) rfl (sub_cons (t := 4) rfl (sub_cons (t := 3) rfl (sub_cons (t := 5) rfl (sub_nil _))))) ?_
      refine cw_skip ?_
      refine pw_then ?_
      refine cw_seq ?_
      refine cw_block ?_
      refine cw_seq ?_
      refine cw_seq ?_
      refine cw_region ?_
      refine lw_move rfl (by decide) ?_
      refine lw_move rfl (by decide) ?_
      refine i23 rfl rfl (by assumption) (by decide) ?_
      refine f34_2 rfl (by decide) ?_
      refine lw_load rfl ag31 (by assumption) (by decide) ?_
      refine lw_move rfl (by decide) ?_
      refine i31 rfl rfl (by assumption) (by decide) ?_
      refine f72_0 rfl (by decide) ?_
      refine lw_load rfl ag9 (by assumption) (by decide) ?_
      refine lw_lenString rfl Try.underlying9 (by decide) ?_
      refine lw_gtr rfl (by decide) ?_
      refine lw_nil ?_
      refine pw_then ?_
      refine cw_cond rfl (fun _ => ?_) (fun h => ?_)
      · skip
        refine cw_seq ?_
        refine cw_region ?_
        refine lw_const (by decide) ?_
        refine lw_nil ?_
        refine pw_then ?_
        refine cw_ret ?_
        refine pw_then_ret ?_
        refine pw_block_ret ?_
        refine pw_then_ret ?_
        refine pw_pass_ret hp2 ?_
        refine pw_block_ret ?_
        refine pw_then_ret ?_
        refine pw_block_ret ?_
        refine pw_then_ret ?_
        refine pw_pass_ret hp1 ?_
        refine pw_block_ret ?_
        refine pw_then_ret ?_
        exact pw_result rfl rfl ⟨retB _, rfl⟩
      clear h
      refine cw_sub (sub_cons (t := 0) rfl (sub_cons (t := 4) rfl (sub_cons (t := 3) rfl (sub_cons (t := 5) rfl (sub_nil _))))) ?_
      refine cw_skip ?_
      refine pw_then ?_
      refine cw_seq ?_
      refine cw_region ?_
      refine lw_move rfl (by decide) ?_
      refine lw_move rfl (by decide) ?_
      refine lw_move rfl (by decide) ?_
      refine i23 rfl rfl (by assumption) (by decide) ?_
      refine f34_2 rfl (by decide) ?_
      refine lw_load rfl ag31 (by assumption) (by decide) ?_
      refine lw_move rfl (by decide) ?_
      refine i31 rfl rfl (by assumption) (by decide) ?_
      refine f72_0 rfl (by decide) ?_
      refine lw_load rfl ag9 (by assumption) (by decide) ?_
      refine lw_lenString rfl Try.underlying9 (by decide) ?_
      refine lw_add rfl rfl (by decide) ?_
      refine lw_assign rfl (by decide) ?_
      refine lw_nil ?_
      refine pw_then ?_
      refine cw_seq ?_
      refine cw_seq ?_
      refine cw_region ?_
      refine lw_move rfl (by decide) ?_
      refine lw_gtr rfl (by decide) ?_
      refine lw_nil ?_
      refine pw_then ?_
      refine cw_cond rfl (fun _ => ?_) (fun h => ?_)
      · skip
        refine cw_seq ?_
        refine cw_region ?_
        refine lw_const (by decide) ?_
        refine lw_nil ?_
        refine pw_then ?_
        refine cw_ret ?_
        refine pw_then_ret ?_
        refine pw_block_ret ?_
        refine pw_then_ret ?_
        refine pw_pass_ret hp2 ?_
        refine pw_block_ret ?_
        refine pw_then_ret ?_
        refine pw_block_ret ?_
        refine pw_then_ret ?_
        refine pw_pass_ret hp1 ?_
        refine pw_block_ret ?_
        refine pw_then_ret ?_
        exact pw_result rfl rfl ⟨retB _, rfl⟩
      clear h
      refine cw_sub (sub_cons (t := 0) rfl (sub_cons (t := 4) rfl (sub_cons (t := 3) rfl (sub_cons (t := 5) rfl (sub_nil _))))) ?_
      refine cw_skip ?_
      refine pw_then ?_
      refine cw_seq ?_
      refine cw_seq ?_
      refine cw_region ?_
      refine lw_move rfl (by decide) ?_
      refine lw_move rfl (by decide) ?_
      refine i23 rfl rfl (by assumption) (by decide) ?_
      refine f34_2 rfl (by decide) ?_
      refine lw_load rfl ag31 (by assumption) (by decide) ?_
      refine lw_move rfl (by decide) ?_
      refine i31 rfl rfl (by assumption) (by decide) ?_
      refine f72_1 rfl (by decide) ?_
      refine lw_load rfl ag9 (by assumption) (by decide) ?_
      refine lw_lenString rfl Try.underlying9 (by decide) ?_
      refine lw_gtr rfl (by decide) ?_
      refine lw_nil ?_
      refine pw_then ?_
      refine cw_cond rfl (fun _ => ?_) (fun h => ?_)
      · skip
        refine cw_seq ?_
        refine cw_region ?_
        refine lw_const (by decide) ?_
        refine lw_nil ?_
        refine pw_then ?_
        refine cw_ret ?_
        refine pw_then_ret ?_
        refine pw_block_ret ?_
        refine pw_then_ret ?_
        refine pw_pass_ret hp2 ?_
        refine pw_block_ret ?_
        refine pw_then_ret ?_
        refine pw_block_ret ?_
        refine pw_then_ret ?_
        refine pw_pass_ret hp1 ?_
        refine pw_block_ret ?_
        refine pw_then_ret ?_
        exact pw_result rfl rfl ⟨retB _, rfl⟩
      clear h
      refine cw_sub (sub_cons (t := 0) rfl (sub_cons (t := 4) rfl (sub_cons (t := 3) rfl (sub_cons (t := 5) rfl (sub_nil _))))) ?_
      refine cw_skip ?_
      refine pw_then ?_
      refine cw_seq ?_
      refine cw_region ?_
      refine lw_move rfl (by decide) ?_
      refine lw_move rfl (by decide) ?_
      refine lw_move rfl (by decide) ?_
      refine i23 rfl rfl (by assumption) (by decide) ?_
      refine f34_2 rfl (by decide) ?_
      refine lw_load rfl ag31 (by assumption) (by decide) ?_
      refine lw_move rfl (by decide) ?_
      refine i31 rfl rfl (by assumption) (by decide) ?_
      refine f72_1 rfl (by decide) ?_
      refine lw_load rfl ag9 (by assumption) (by decide) ?_
      refine lw_lenString rfl Try.underlying9 (by decide) ?_
      refine lw_add rfl rfl (by decide) ?_
      refine lw_assign rfl (by decide) ?_
      refine lw_nil ?_
      refine pw_then ?_
      refine cw_seq ?_
      refine cw_region ?_
      refine lw_move rfl (by decide) ?_
      refine lw_gtr rfl (by decide) ?_
      refine lw_nil ?_
      refine pw_then ?_
      refine cw_cond rfl (fun _ => ?_) (fun h => ?_)
      · skip
        refine cw_seq ?_
        refine cw_region ?_
        refine lw_const (by decide) ?_
        refine lw_nil ?_
        refine pw_then ?_
        refine cw_ret ?_
        refine pw_block_ret ?_
        refine pw_then_ret ?_
        refine pw_pass_ret hp2 ?_
        refine pw_block_ret ?_
        refine pw_then_ret ?_
        refine pw_block_ret ?_
        refine pw_then_ret ?_
        refine pw_pass_ret hp1 ?_
        refine pw_block_ret ?_
        refine pw_then_ret ?_
        exact pw_result rfl rfl ⟨retB _, rfl⟩
      clear h
      refine cw_sub (sub_cons (t := 0) rfl (sub_cons (t := 4) rfl (sub_cons (t := 3) rfl (sub_cons (t := 5) rfl (sub_nil _))))) ?_
      refine cw_skip ?_
      refine pw_block_normal ?_
      refine pw_then ?_
      refine cw_region ?_
      refine lw_move rfl (by decide) ?_
      refine lw_inc rfl (by omega) (by decide) ?_
      refine lw_assign rfl (by decide) ?_
      refine lw_nil ?_
      exact he2 _ _ trivial (by omega) rfl rfl (sub_cons (t := 0) rfl (sub_cons (t := 4) rfl (sub_nil _)))
    · clear k41
      refine cw_seq ?_
      refine cw_seq ?_
      refine cw_region ?_
      refine lw_move rfl (by decide) ?_
      refine lw_move rfl (by decide) ?_
      refine lw_move rfl (by decide) ?_
      refine i23 rfl rfl (by assumption) (by decide) ?_
      refine f34_2 rfl (by decide) ?_
      refine lw_load rfl ag31 (by assumption) (by decide) ?_
      refine lw_lenSlice rfl Try.underlying31 (by decide) ?_
      refine lw_lss rfl rfl (by decide) ?_
      refine lw_nil ?_
      refine pw_then ?_
      refine cw_cond rfl (fun h => by have := of_decide_eq_true h; omega) (fun _ => ?_)
      refine cw_sub (sub_cons (t := 0) rfl (sub_cons (t := 4) rfl (sub_cons (t := 3) rfl (sub_cons (t := 5) rfl (sub_nil _))))) ?_
      refine cw_exit ?_
      refine pw_then_exit ?_
      refine pw_pass_exit hp2 ?_
      refine pw_block_exit ?_
      refine pw_then ?_
      refine cw_seq ?_
      refine cw_seq ?_
      refine cw_region ?_
      refine lw_move rfl (by decide) ?_
      refine lw_move rfl (by decide) ?_
      refine i23 rfl rfl (by assumption) (by decide) ?_
      refine f34_3 rfl (by decide) ?_
      refine lw_load rfl ag32 (by assumption) (by decide) ?_
      refine lw_lenSlice rfl Try.underlying32 (by decide) ?_
      refine lw_gtr rfl (by decide) ?_
      refine lw_nil ?_
      refine pw_then ?_
      refine cw_cond rfl (fun _ => ?_) (fun h => ?_)
      · skip
        refine cw_seq ?_
        refine cw_region ?_
        refine lw_const (by decide) ?_
        refine lw_nil ?_
        refine pw_then ?_
        refine cw_ret ?_
        refine pw_then_ret ?_
        refine pw_block_ret ?_
        refine pw_then_ret ?_
        refine pw_pass_ret hp1 ?_
        refine pw_block_ret ?_
        refine pw_then_ret ?_
        exact pw_result rfl rfl ⟨retB _, rfl⟩
      clear h
      refine cw_sub (sub_cons (t := 0) rfl (sub_cons (t := 3) rfl (sub_cons (t := 4) rfl (sub_nil _)))) ?_
      refine cw_skip ?_
      refine pw_then ?_
      refine cw_seq ?_
      refine cw_region ?_
      refine lw_move rfl (by decide) ?_
      refine lw_move rfl (by decide) ?_
      refine lw_move rfl (by decide) ?_
      refine i23 rfl rfl (by assumption) (by decide) ?_
      refine f34_3 rfl (by decide) ?_
      refine lw_load rfl ag32 (by assumption) (by decide) ?_
      refine lw_lenSlice rfl Try.underlying32 (by decide) ?_
      refine lw_add rfl rfl (by decide) ?_
      refine lw_assign rfl (by decide) ?_
      refine lw_nil ?_
      refine pw_then ?_
      refine cw_seq ?_
      refine cw_seq ?_
      refine cw_region ?_
      refine lw_move rfl (by decide) ?_
      refine lw_gtr rfl (by decide) ?_
      refine lw_nil ?_
      refine pw_then ?_
      refine cw_cond rfl (fun _ => ?_) (fun h => ?_)
      · skip
        refine cw_seq ?_
        refine cw_region ?_
        refine lw_const (by decide) ?_
        refine lw_nil ?_
        refine pw_then ?_
        refine cw_ret ?_
        refine pw_then_ret ?_
        refine pw_block_ret ?_
        refine pw_then_ret ?_
        refine pw_pass_ret hp1 ?_
        refine pw_block_ret ?_
        refine pw_then_ret ?_
        exact pw_result rfl rfl ⟨retB _, rfl⟩
      clear h
      refine cw_sub (sub_cons (t := 0) rfl (sub_cons (t := 3) rfl (sub_cons (t := 4) rfl (sub_nil _)))) ?_
      refine cw_skip ?_
      refine pw_then ?_
      refine cw_seq ?_
      refine cw_region ?_
      refine lw_const (by decide) ?_
      refine lw_nil ?_
      refine pw_then ?_
      refine cw_block ?_
      refine cw_loop (z := 3) (i := 6) (n := tn1) (fun _ _ => True) (by decide) rfl rfl (sub_cons (t := 0) rfl (sub_cons (t := 4) rfl (sub_nil _))) trivial ?_
      intro q3 k3 hk3 _ K3 hp3 he3
      by_cases hlt3 : k3 < tn1
      · obtain ⟨b3, o3, hao3, _, hat3⟩ := d41 (by omega)
        have hc3 := hat3 k3 hlt3
        generalize T1 k3 = d3 at hc3
        obtain ⟨ka3, kn3, kc3, K03, ca3, cn3, cc3, C3⟩ := d3
        obtain ⟨x03, x13, s03, s13⟩ := hc3
        simp only at x03 x13 s03 s13
        obtain ⟨k13, k23, -, k43, k53⟩ := s03
        obtain ⟨d13, d23, -, d43⟩ := s13
        subst hao3
        clear hat3 d41
        refine cw_seq ?_
        refine cw_seq ?_
        refine cw_region ?_
        refine lw_move rfl (by decide) ?_
        refine lw_move rfl (by decide) ?_
        refine lw_move rfl (by decide) ?_
        refine i23 rfl rfl (by assumption) (by decide) ?_
        refine f34_3 rfl (by decide) ?_
        refine lw_load rfl ag32 (by assumption) (by decide) ?_
        refine lw_lenSlice rfl Try.underlying32 (by decide) ?_
        refine lw_lss rfl rfl (by decide) ?_
        refine lw_nil ?_
        refine pw_then ?_
        refine cw_cond rfl (fun _ => ?_) (fun h => by have := of_decide_eq_false h; omega)
        refine cw_sub (sub_cons (t := 0) rfl (sub_cons (t := 4) rfl (sub_cons (t := 3) rfl (sub_cons (t := 6) rfl (sub_nil _))))) ?_
        refine cw_skip ?_
        refine pw_then ?_
        refine cw_seq ?_
        refine cw_block ?_
        refine cw_seq ?_
        refine cw_seq ?_
        refine cw_region ?_
        refine lw_move rfl (by decide) ?_
        refine lw_move rfl (by decide) ?_
        refine i23 rfl rfl (by assumption) (by decide) ?_
        refine f34_3 rfl (by decide) ?_
        refine lw_load rfl ag32 (by assumption) (by decide) ?_
        refine lw_move rfl (by decide) ?_
        refine i32 rfl rfl (by assumption) (by decide) ?_
        refine f54_0 rfl (by decide) ?_
        refine lw_load rfl ag51 (by assumption) (by decide) ?_
        refine lw_lenSlice rfl Try.underlying51 (by decide) ?_
        refine lw_gtr rfl (by decide) ?_
        refine lw_nil ?_
        refine pw_then ?_
        refine cw_cond rfl (fun _ => ?_) (fun h => ?_)
        · skip
          refine cw_seq ?_
          refine cw_region ?_
          refine lw_const (by decide) ?_
          refine lw_nil ?_
          refine pw_then ?_
          refine cw_ret ?_
          refine pw_then_ret ?_
          refine pw_block_ret ?_
          refine pw_then_ret ?_
          refine pw_pass_ret hp3 ?_
          refine pw_block_ret ?_
          refine pw_block_ret ?_
          refine pw_then_ret ?_
          refine pw_pass_ret hp1 ?_
          refine pw_block_ret ?_
          refine pw_then_ret ?_
          exact pw_result rfl rfl ⟨retB _, rfl⟩
        clear h
        refine cw_sub (sub_cons (t := 0) rfl (sub_cons (t := 4) rfl (sub_cons (t := 3) rfl (sub_cons (t := 6) rfl (sub_nil _))))) ?_
        refine cw_skip ?_
        refine pw_then ?_
        refine cw_seq ?_
        refine cw_region ?_
        refine lw_move rfl (by decide) ?_
        refine lw_move rfl (by decide) ?_
        refine lw_move rfl (by decide) ?_
        refine i23 rfl rfl (by assumption) (by decide) ?_
        refine f34_3 rfl (by decide) ?_
        refine lw_load rfl ag32 (by assumption) (by decide) ?_
        refine lw_move rfl (by decide) ?_
        refine i32 rfl rfl (by assumption) (by decide) ?_
        refine f54_0 rfl (by decide) ?_
        refine lw_load rfl ag51 (by assumption) (by decide) ?_
        refine lw_lenSlice rfl Try.underlying51 (by decide) ?_
        refine lw_add rfl rfl (by decide) ?_
        refine lw_assign rfl (by decide) ?_
        refine lw_nil ?_
        refine pw_then ?_
        refine cw_seq ?_
        refine cw_seq ?_
        refine cw_region ?_
        refine lw_move rfl (by decide) ?_
        refine lw_gtr rfl (by decide) ?_
        refine lw_nil ?_
        refine pw_then ?_
        refine cw_cond rfl (fun _ => ?_) (fun h => ?_)
        · skip
          refine cw_seq ?_
          refine cw_region ?_
          refine lw_const (by decide) ?_
          refine lw_nil ?_
          refine pw_then ?_
          refine cw_ret ?_
          refine pw_then_ret ?_
          refine pw_block_ret ?_
          refine pw_then_ret ?_
          refine pw_pass_ret hp3 ?_
          refine pw_block_ret ?_
          refine pw_block_ret ?_
          refine pw_then_ret ?_
          refine pw_pass_ret hp1 ?_
          refine pw_block_ret ?_
          refine pw_then_ret ?_
          exact pw_result rfl rfl ⟨retB _, rfl⟩
        clear h
        refine cw_sub (sub_cons (t := 0) rfl (sub_cons (t := 4) rfl (sub_cons (t := 3) rfl (sub_cons (t := 6) rfl (sub_nil _))))) ?_
        refine cw_skip ?_
        refine pw_then ?_
        refine cw_seq ?_
        refine cw_seq ?_
        refine cw_region ?_
        refine lw_const (by decide) ?_
        refine lw_nil ?_
        refine pw_then ?_
        refine cw_block ?_
        refine cw_loop (z := 3) (i := 7) (n := kn3) (fun _ _ => True) (by decide) rfl rfl (sub_cons (t := 0) rfl (sub_cons (t := 4) rfl (sub_cons (t := 6) rfl (sub_nil _)))) trivial ?_
        intro q4 k4 hk4 _ K4 hp4 he4
        by_cases hlt4 : k4 < kn3
        · obtain ⟨b4, o4, hao4, _, hat4⟩ := k43 (by omega)
          have hc4 := hat4 k4 hlt4
          have hs4 := k53 k4 hlt4
          subst hao4
          clear hat4 k43 k53
          refine cw_seq ?_
          refine cw_seq ?_
          refine cw_region ?_
          refine lw_move rfl (by decide) ?_
          refine lw_move rfl (by decide) ?_
          refine lw_move rfl (by decide) ?_
          refine i23 rfl rfl (by assumption) (by decide) ?_
          refine f34_3 rfl (by decide) ?_
          refine lw_load rfl ag32 (by assumption) (by decide) ?_
          refine lw_move rfl (by decide) ?_
          refine i32 rfl rfl (by assumption) (by decide) ?_
          refine f54_0 rfl (by decide) ?_
          refine lw_load rfl ag51 (by assumption) (by decide) ?_
          refine lw_lenSlice rfl Try.underlying51 (by decide) ?_
          refine lw_lss rfl rfl (by decide) ?_
          refine lw_nil ?_
          refine pw_then ?_
          refine cw_cond rfl (fun _ => ?_) (fun h => by have := of_decide_eq_false h; omega)
          refine cw_sub (sub_cons (t := 0) rfl (sub_cons (t := 4) rfl (sub_cons (t := 6) rfl (sub_cons (t := 3) rfl (sub_cons (t := 7) rfl (sub_nil _)))))) ?_
          refine cw_skip ?_
          refine pw_then ?_
          refine cw_seq ?_
          refine cw_block ?_
          refine cw_seq ?_
          refine cw_seq ?_
          refine cw_region ?_
          refine lw_move rfl (by decide) ?_
          refine lw_move rfl (by decide) ?_
          refine i23 rfl rfl (by assumption) (by decide) ?_
          refine f34_3 rfl (by decide) ?_
          refine lw_load rfl ag32 (by assumption) (by decide) ?_
          refine lw_move rfl (by decide) ?_
          refine i32 rfl rfl (by assumption) (by decide) ?_
          refine f54_0 rfl (by decide) ?_
          refine lw_load rfl ag51 (by assumption) (by decide) ?_
          refine lw_move rfl (by decide) ?_
          refine i51 rfl rfl (by assumption) (by decide) ?_
          refine lw_load rfl ag9 (by assumption) (by decide) ?_
          refine lw_lenString rfl Try.underlying9 (by decide) ?_
          refine lw_gtr rfl (by decide) ?_
          refine lw_nil ?_
          refine pw_then ?_
          refine cw_cond rfl (fun _ => ?_) (fun h => ?_)
          · skip
            refine cw_seq ?_
            refine cw_region ?_
            refine lw_const (by decide) ?_
            refine lw_nil ?_
            refine pw_then ?_
            refine cw_ret ?_
            refine pw_then_ret ?_
            refine pw_block_ret ?_
            refine pw_then_ret ?_
            refine pw_pass_ret hp4 ?_
            refine pw_block_ret ?_
            refine pw_then_ret ?_
            refine pw_block_ret ?_
            refine pw_then_ret ?_
            refine pw_pass_ret hp3 ?_
            refine pw_block_ret ?_
            refine pw_block_ret ?_
            refine pw_then_ret ?_
            refine pw_pass_ret hp1 ?_
            refine pw_block_ret ?_
            refine pw_then_ret ?_
            exact pw_result rfl rfl ⟨retB _, rfl⟩
          clear h
          refine cw_sub (sub_cons (t := 0) rfl (sub_cons (t := 4) rfl (sub_cons (t := 6) rfl (sub_cons (t := 3) rfl (sub_cons (t := 7) rfl (sub_nil _)))))) ?_
          refine cw_skip ?_
          refine pw_then ?_
          refine cw_seq ?_
          refine cw_region ?_
          refine lw_move rfl (by decide) ?_
          refine lw_move rfl (by decide) ?_
          refine lw_move rfl (by decide) ?_
          refine i23 rfl rfl (by assumption) (by decide) ?_
          refine f34_3 rfl (by decide) ?_
          refine lw_load rfl ag32 (by assumption) (by decide) ?_
          refine lw_move rfl (by decide) ?_
          refine i32 rfl rfl (by assumption) (by decide) ?_
          refine f54_0 rfl (by decide) ?_
          refine lw_load rfl ag51 (by assumption) (by decide) ?_
          refine lw_move rfl (by decide) ?_
          refine i51 rfl rfl (by assumption) (by decide) ?_
          refine lw_load rfl ag9 (by assumption) (by decide) ?_
          refine lw_lenString rfl Try.underlying9 (by decide) ?_
          refine lw_add rfl rfl (by decide) ?_
          refine lw_assign rfl (by decide) ?_
          refine lw_nil ?_
          refine pw_then ?_
          refine cw_seq ?_
          refine cw_region ?_
          refine lw_move rfl (by decide) ?_
          refine lw_gtr rfl (by decide) ?_
          refine lw_nil ?_
          refine pw_then ?_
          refine cw_cond rfl (fun _ => ?_) (fun h => ?_)
          · skip
            refine cw_seq ?_
            refine cw_region ?_
            refine lw_const (by decide) ?_
            refine lw_nil ?_
            refine pw_then ?_
            refine cw_ret ?_
            refine pw_block_ret ?_
            refine pw_then_ret ?_
            refine pw_pass_ret hp4 ?_
            refine pw_block_ret ?_
            refine pw_then_ret ?_
            refine pw_block_ret ?_
            refine pw_then_ret ?_
            refine pw_pass_ret hp3 ?_
            refine pw_block_ret ?_
            refine pw_block_ret ?_
            refine pw_then_ret ?_
            refine pw_pass_ret hp1 ?_
            refine pw_block_ret ?_
            refine pw_then_ret ?_
            exact pw_result rfl rfl ⟨retB _, rfl⟩
          clear h
          refine cw_sub (sub_cons (t := 0) rfl (sub_cons (t := 4) rfl (sub_cons (t := 6) rfl (sub_cons (t := 3) rfl (sub_cons (t := 7) rfl (sub_nil _)))))) ?_
          refine cw_skip ?_
          refine pw_block_normal ?_
          refine pw_then ?_
          refine cw_region ?_
          refine lw_move rfl (by decide) ?_
          refine lw_inc rfl (by omega) (by decide) ?_
          refine lw_assign rfl (by decide) ?_
          refine lw_nil ?_
          exact he4 _ _ trivial (by omega) rfl rfl (sub_cons (t := 0) rfl (sub_cons (t := 4) rfl (sub_cons (t := 6) rfl (sub_nil _))))
        · clear k43 k53
          refine cw_seq ?_
          refine cw_seq ?_
          refine cw_region ?_
          refine lw_move rfl (by decide) ?_
          refine lw_move rfl (by decide) ?_
          refine lw_move rfl (by decide) ?_
          refine i23 rfl rfl (by assumption) (by decide) ?_
          refine f34_3 rfl (by decide) ?_
          refine lw_load rfl ag32 (by assumption) (by decide) ?_
          refine lw_move rfl (by decide) ?_
          refine i32 rfl rfl (by assumption) (by decide) ?_
          refine f54_0 rfl (by decide) ?_
          refine lw_load rfl ag51 (by assumption) (by decide) ?_
          refine lw_lenSlice rfl Try.underlying51 (by decide) ?_
          refine lw_lss rfl rfl (by decide) ?_
          refine lw_nil ?_
          refine pw_then ?_
          refine cw_cond rfl (fun h => by have := of_decide_eq_true h; omega) (fun _ => ?_)
          refine cw_sub (sub_cons (t := 0) rfl (sub_cons (t := 4) rfl (sub_cons (t := 6) rfl (sub_cons (t := 3) rfl (sub_cons (t := 7) rfl (sub_nil _)))))) ?_
          refine cw_exit ?_
          refine pw_then_exit ?_
          refine pw_pass_exit hp4 ?_
          refine pw_block_exit ?_
          refine pw_then ?_
          refine cw_seq ?_
          refine cw_seq ?_
          refine cw_region ?_
          refine lw_move rfl (by decide) ?_
          refine lw_move rfl (by decide) ?_
          refine i23 rfl rfl (by assumption) (by decide) ?_
          refine f34_3 rfl (by decide) ?_
          refine lw_load rfl ag32 (by assumption) (by decide) ?_
          refine lw_move rfl (by decide) ?_
          refine i32 rfl rfl (by assumption) (by decide) ?_
          refine f54_1 rfl (by decide) ?_
          refine lw_load rfl ag52 (by assumption) (by decide) ?_
          refine lw_lenSlice rfl Try.underlying52 (by decide) ?_
          refine lw_gtr rfl (by decide) ?_
          refine lw_nil ?_
          refine pw_then ?_
          refine cw_cond rfl (fun _ => ?_) (fun h => ?_)
          · skip
            refine cw_seq ?_
            refine cw_region ?_
            refine lw_const (by decide) ?_
            refine lw_nil ?_
            refine pw_then ?_
            refine cw_ret ?_
            refine pw_then_ret ?_
            refine pw_block_ret ?_
            refine pw_then_ret ?_
            refine pw_pass_ret hp3 ?_
            refine pw_block_ret ?_
            refine pw_block_ret ?_
            refine pw_then_ret ?_
            refine pw_pass_ret hp1 ?_
            refine pw_block_ret ?_
            refine pw_then_ret ?_
            exact pw_result rfl rfl ⟨retB _, rfl⟩
          clear h
          refine cw_sub (sub_cons (t := 0) rfl (sub_cons (t := 4) rfl (sub_cons (t := 3) rfl (sub_cons (t := 6) rfl (sub_nil _))))) ?_
          refine cw_skip ?_
          refine pw_then ?_
          refine cw_seq ?_
          refine cw_region ?_
          refine lw_move rfl (by decide) ?_
          refine lw_move rfl (by decide) ?_
          refine lw_move rfl (by decide) ?_
          refine i23 rfl rfl (by assumption) (by decide) ?_
          refine f34_3 rfl (by decide) ?_
          refine lw_load rfl ag32 (by assumption) (by decide) ?_
          refine lw_move rfl (by decide) ?_
          refine i32 rfl rfl (by assumption) (by decide) ?_
          refine f54_1 rfl (by decide) ?_
          refine lw_load rfl ag52 (by assumption) (by decide) ?_
          refine lw_lenSlice rfl Try.underlying52 (by decide) ?_
          refine lw_add rfl rfl (by decide) ?_
          refine lw_assign rfl (by decide) ?_
          refine lw_nil ?_
          refine pw_then ?_
          refine cw_seq ?_
          refine cw_seq ?_
          refine cw_region ?_
          refine lw_move rfl (by decide) ?_
          refine lw_gtr rfl (by decide) ?_
          refine lw_nil ?_
          refine pw_then ?_
          refine cw_cond rfl (fun _ => ?_) (fun h => ?_)
          · skip
            refine cw_seq ?_
            refine cw_region ?_
            refine lw_const (by decide) ?_
            refine lw_nil ?_
            refine pw_then ?_
            refine cw_ret ?_
            refine pw_then_ret ?_
            refine pw_block_ret ?_
            refine pw_then_ret ?_
            refine pw_pass_ret hp3 ?_
            refine pw_block_ret ?_
            refine pw_block_ret ?_
            refine pw_then_ret ?_
            refine pw_pass_ret hp1 ?_
            refine pw_block_ret ?_
            refine pw_then_ret ?_
            exact pw_result rfl rfl ⟨retB _, rfl⟩
          clear h
          refine cw_sub (sub_cons (t := 0) rfl (sub_cons (t := 4) rfl (sub_cons (t := 3) rfl (sub_cons (t := 6) rfl (sub_nil _))))) ?_
          refine cw_skip ?_
          refine pw_then ?_
          refine cw_seq ?_
          refine cw_region ?_
          refine lw_const (by decide) ?_
          refine lw_nil ?_
          refine pw_then ?_
          refine cw_block ?_
          refine cw_loop (z := 3) (i := 8) (n := cn3) (fun _ _ => True) (by decide) rfl rfl (sub_cons (t := 0) rfl (sub_cons (t := 4) rfl (sub_cons (t := 6) rfl (sub_nil _)))) trivial ?_
          intro q5 k5 hk5 _ K5 hp5 he5
          by_cases hlt5 : k5 < cn3
          · obtain ⟨b5, o5, hao5, _, hat5⟩ := d43 (by omega)
            have hc5 := hat5 k5 hlt5
            generalize C3 k5 = d5 at hc5
            obtain ⟨am5, sh5, oa5, on5, oc5, O5, bd5⟩ := d5
            obtain ⟨x05, x15, x25, x35, y05, y15, y25, y35⟩ := hc5
            simp only at x05 x15 x25 x35 y05 y15 y25 y35
            obtain ⟨z15, z25, -, z45, z55⟩ := y25
            subst hao5
            clear hat5 d43
            refine cw_seq ?_
            refine cw_seq ?_
            refine cw_region ?_
            refine lw_move rfl (by decide) ?_
            refine lw_move rfl (by decide) ?_
            refine lw_move rfl (by decide) ?_
            refine i23 rfl rfl (by assumption) (by decide) ?_
            refine f34_3 rfl (by decide) ?_
            refine lw_load rfl ag32 (by assumption) (by decide) ?_
            refine lw_move rfl (by decide) ?_
            refine i32 rfl rfl (by assumption) (by decide) ?_
            refine f54_1 rfl (by decide) ?_
            refine lw_load rfl ag52 (by assumption) (by decide) ?_
            refine lw_lenSlice rfl Try.underlying52 (by decide) ?_
            refine lw_lss rfl rfl (by decide) ?_
            refine lw_nil ?_
            refine pw_then ?_
            refine cw_cond rfl (fun _ => ?_) (fun h => by have := of_decide_eq_false h; omega)
            refine cw_sub (sub_cons (t := 0) rfl (sub_cons (t := 4) rfl (sub_cons (t := 6) rfl (sub_cons (t := 3) rfl (sub_cons (t := 8) rfl (sub_nil _)))))) ?_
            refine cw_skip ?_
            refine pw_then ?_
            refine cw_seq ?_
            refine cw_block ?_
            refine cw_seq ?_
            refine cw_seq ?_
            refine cw_region ?_
            refine lw_move rfl (by decide) ?_
            refine lw_move rfl (by decide) ?_
            refine i23 rfl rfl (by assumption) (by decide) ?_
            refine f34_3 rfl (by decide) ?_
            refine lw_load rfl ag32 (by assumption) (by decide) ?_
            refine lw_move rfl (by decide) ?_
            refine i32 rfl rfl (by assumption) (by decide) ?_
            refine f54_1 rfl (by decide) ?_
            refine lw_load rfl ag52 (by assumption) (by decide) ?_
            refine lw_move rfl (by decide) ?_
            refine i52 rfl rfl (by assumption) (by decide) ?_
            refine f56_0 rfl (by decide) ?_
            refine lw_load rfl ag9 (by assumption) (by decide) ?_
            refine lw_lenString rfl Try.underlying9 (by decide) ?_
            refine lw_gtr rfl (by decide) ?_
            refine lw_nil ?_
            refine pw_then ?_
            refine cw_cond rfl (fun _ => ?_) (fun h => ?_)
            · skip
              refine cw_seq ?_
              refine cw_region ?_
              refine lw_const (by decide) ?_
              refine lw_nil ?_
              refine pw_then ?_
              refine cw_ret ?_
              refine pw_then_ret ?_
              refine pw_block_ret ?_
              refine pw_then_ret ?_
              refine pw_pass_ret hp5 ?_
              refine pw_block_ret ?_
              refine pw_block_ret ?_
              refine pw_then_ret ?_
              refine pw_pass_ret hp3 ?_
              refine pw_block_ret ?_
              refine pw_block_ret ?_
              refine pw_then_ret ?_
              refine pw_pass_ret hp1 ?_
              refine pw_block_ret ?_
              refine pw_then_ret ?_
              exact pw_result rfl rfl ⟨retB _, rfl⟩
            clear h
            refine cw_sub (sub_cons (t := 0) rfl (sub_cons (t := 4) rfl (sub_cons (t := 6) rfl (sub_cons (t := 3) rfl (sub_cons (t := 8) rfl (sub_nil _)))))) ?_
            refine cw_skip ?_
            refine pw_then ?_
            refine cw_seq ?_
            refine cw_region ?_
            refine lw_move rfl (by decide) ?_
            refine lw_move rfl (by decide) ?_
            refine lw_move rfl (by decide) ?_
            refine i23 rfl rfl (by assumption) (by decide) ?_
            refine f34_3 rfl (by decide) ?_
            refine lw_load rfl ag32 (by assumption) (by decide) ?_
            refine lw_move rfl (by decide) ?_
            refine i32 rfl rfl (by assumption) (by decide) ?_
            refine f54_1 rfl (by decide) ?_
            refine lw_load rfl ag52 (by assumption) (by decide) ?_
            refine lw_move rfl (by decide) ?_
            refine i52 rfl rfl (by assumption) (by decide) ?_
            refine f56_0 rfl (by decide) ?_
            refine lw_load rfl ag9 (by assumption) (by decide) ?_
            refine lw_lenString rfl Try.underlying9 (by decide) ?_
            refine lw_add rfl rfl (by decide) ?_
            refine lw_assign rfl (by decide) ?_
            refine lw_nil ?_
            refine pw_then ?_
            refine cw_seq ?_
            refine cw_seq ?_
            refine cw_region ?_
            refine lw_move rfl (by decide) ?_
            refine lw_gtr rfl (by decide) ?_
            refine lw_nil ?_
            refine pw_then ?_
            refine cw_cond rfl (fun _ => ?_) (fun h => ?_)
            · skip
              refine cw_seq ?_
              refine cw_region ?_
              refine lw_const (by decide) ?_
              refine lw_nil ?_
              refine pw_then ?_
              refine cw_ret ?_
              refine pw_then_ret ?_
              refine pw_block_ret ?_
              refine pw_then_ret ?_
              refine pw_pass_ret hp5 ?_
              refine pw_block_ret ?_
              refine pw_block_ret ?_
              refine pw_then_ret ?_
              refine pw_pass_ret hp3 ?_
              refine pw_block_ret ?_
              refine pw_block_ret ?_
              refine pw_then_ret ?_
              refine pw_pass_ret hp1 ?_
              refine pw_block_ret ?_
              refine pw_then_ret ?_
              exact pw_result rfl rfl ⟨retB _, rfl⟩
            clear h
            refine cw_sub (sub_cons (t := 0) rfl (sub_cons (t := 4) rfl (sub_cons (t := 6) rfl (sub_cons (t := 3) rfl (sub_cons (t := 8) rfl (sub_nil _)))))) ?_
            refine cw_skip ?_
            refine pw_then ?_
            refine cw_seq ?_
            refine cw_seq ?_
            refine cw_region ?_
            refine lw_move rfl (by decide) ?_
            refine lw_move rfl (by decide) ?_
            refine i23 rfl rfl (by assumption) (by decide) ?_
            refine f34_3 rfl (by decide) ?_
            refine lw_load rfl ag32 (by assumption) (by decide) ?_
            refine lw_move rfl (by decide) ?_
            refine i32 rfl rfl (by assumption) (by decide) ?_
            refine f54_1 rfl (by decide) ?_
            refine lw_load rfl ag52 (by assumption) (by decide) ?_
            refine lw_move rfl (by decide) ?_
            refine i52 rfl rfl (by assumption) (by decide) ?_
            refine f56_1 rfl (by decide) ?_
            refine lw_load rfl ag9 (by assumption) (by decide) ?_
            refine lw_lenString rfl Try.underlying9 (by decide) ?_
            refine lw_gtr rfl (by decide) ?_
            refine lw_nil ?_
            refine pw_then ?_
            refine cw_cond rfl (fun _ => ?_) (fun h => ?_)
            · skip
              refine cw_seq ?_
              refine cw_region ?_
              refine lw_const (by decide) ?_
              refine lw_nil ?_
              refine pw_then ?_
              refine cw_ret ?_
              refine pw_then_ret ?_
              refine pw_block_ret ?_
              refine pw_then_ret ?_
              refine pw_pass_ret hp5 ?_
              refine pw_block_ret ?_
              refine pw_block_ret ?_
              refine pw_then_ret ?_
              refine pw_pass_ret hp3 ?_
              refine pw_block_ret ?_
              refine pw_block_ret ?_
              refine pw_then_ret ?_
              refine pw_pass_ret hp1 ?_
              refine pw_block_ret ?_
              refine pw_then_ret ?_
              exact pw_result rfl rfl ⟨retB _, rfl⟩
            clear h
            refine cw_sub (sub_cons (t := 0) rfl (sub_cons (t := 4) rfl (sub_cons (t := 6) rfl (sub_cons (t := 3) rfl (sub_cons (t := 8) rfl (sub_nil _)))))) ?_
            refine cw_skip ?_
            refine pw_then ?_
            refine cw_seq ?_
            refine cw_region ?_
            refine lw_move rfl (by decide) ?_
            refine lw_move rfl (by decide) ?_
            refine lw_move rfl (by decide) ?_
            refine i23 rfl rfl (by assumption) (by decide) ?_
            refine f34_3 rfl (by decide) ?_
            refine lw_load rfl ag32 (by assumption) (by decide) ?_
            refine lw_move rfl (by decide) ?_
            refine i32 rfl rfl (by assumption) (by decide) ?_
            refine f54_1 rfl (by decide) ?_
            refine lw_load rfl ag52 (by assumption) (by decide) ?_
            refine lw_move rfl (by decide) ?_
            refine i52 rfl rfl (by assumption) (by decide) ?_
            refine f56_1 rfl (by decide) ?_
            refine lw_load rfl ag9 (by assumption) (by decide) ?_
            refine lw_lenString rfl Try.underlying9 (by decide) ?_
            refine lw_add rfl rfl (by decide) ?_
            refine lw_assign rfl (by decide) ?_
            refine lw_nil ?_
            refine pw_then ?_
            refine cw_seq ?_
            refine cw_seq ?_
            refine cw_region ?_
            refine lw_move rfl (by decide) ?_
            refine lw_gtr rfl (by decide) ?_
            refine lw_nil ?_
            refine pw_then ?_
            refine cw_cond rfl (fun _ => ?_) (fun h => ?_)
            · skip
              refine cw_seq ?_
              refine cw_region ?_
              refine lw_const (by decide) ?_
              refine lw_nil ?_
              refine pw_then ?_
              refine cw_ret ?_
              refine pw_then_ret ?_
              refine pw_block_ret ?_
              refine pw_then_ret ?_
              refine pw_pass_ret hp5 ?_
              refine pw_block_ret ?_
              refine pw_block_ret ?_
              refine pw_then_ret ?_
              refine pw_pass_ret hp3 ?_
              refine pw_block_ret ?_
              refine pw_block_ret ?_
              refine pw_then_ret ?_
              refine pw_pass_ret hp1 ?_
              refine pw_block_ret ?_
              refine pw_then_ret ?_
              exact pw_result rfl rfl ⟨retB _, rfl⟩
            clear h
            refine cw_sub (sub_cons (t := 0) rfl (sub_cons (t := 4) rfl (sub_cons (t := 6) rfl (sub_cons (t := 3) rfl (sub_cons (t := 8) rfl (sub_nil _)))))) ?_
            refine cw_skip ?_
            refine pw_then ?_
            refine cw_seq ?_
            refine cw_seq ?_
            refine cw_region ?_
            refine lw_move rfl (by decide) ?_
            refine lw_move rfl (by decide) ?_
            refine i23 rfl rfl (by assumption) (by decide) ?_
            refine f34_3 rfl (by decide) ?_
            refine lw_load rfl ag32 (by assumption) (by decide) ?_
            refine lw_move rfl (by decide) ?_
            refine i32 rfl rfl (by assumption) (by decide) ?_
            refine f54_1 rfl (by decide) ?_
            refine lw_load rfl ag52 (by assumption) (by decide) ?_
            refine lw_move rfl (by decide) ?_
            refine i52 rfl rfl (by assumption) (by decide) ?_
            refine f56_2 rfl (by decide) ?_
            refine lw_load rfl ag51 (by assumption) (by decide) ?_
            refine lw_lenSlice rfl Try.underlying51 (by decide) ?_
            refine lw_gtr rfl (by decide) ?_
            refine lw_nil ?_
            refine pw_then ?_
            refine cw_cond rfl (fun _ => ?_) (fun h => ?_)
            · skip
              refine cw_seq ?_
              refine cw_region ?_
              refine lw_const (by decide) ?_
              refine lw_nil ?_
              refine pw_then ?_
              refine cw_ret ?_
              refine pw_then_ret ?_
              refine pw_block_ret ?_
              refine pw_then_ret ?_
              refine pw_pass_ret hp5 ?_
              refine pw_block_ret ?_
              refine pw_block_ret ?_
              refine pw_then_ret ?_
              refine pw_pass_ret hp3 ?_
              refine pw_block_ret ?_
              refine pw_block_ret ?_
              refine pw_then_ret ?_
              refine pw_pass_ret hp1 ?_
              refine pw_block_ret ?_
              refine pw_then_ret ?_
              exact pw_result rfl rfl ⟨retB _, rfl⟩
            clear h
            refine cw_sub (sub_cons (t := 0) rfl (sub_cons (t := 4) rfl (sub_cons (t := 6) rfl (sub_cons (t := 3) rfl (sub_cons (t := 8) rfl (sub_nil _)))))) ?_
            refine cw_skip ?_
            refine pw_then ?_
            refine cw_seq ?_
            refine cw_region ?_
            refine lw_move rfl (by decide) ?_
            refine lw_move rfl (by decide) ?_
            refine lw_move rfl (by decide) ?_
            refine i23 rfl rfl (by assumption) (by decide) ?_
            refine f34_3 rfl (by decide) ?_
            refine lw_load rfl ag32 (by assumption) (by decide) ?_
            refine lw_move rfl (by decide) ?_
            refine i32 rfl rfl (by assumption) (by decide) ?_
            refine f54_1 rfl (by decide) ?_
            refine lw_load rfl ag52 (by assumption) (by decide) ?_
            refine lw_move rfl (by decide) ?_
            refine i52 rfl rfl (by assumption) (by decide) ?_
            refine f56_2 rfl (by decide) ?_
            refine lw_load rfl ag51 (by assumption) (by decide) ?_
            refine lw_lenSlice rfl Try.underlying51 (by decide) ?_
            refine lw_add rfl rfl (by decide) ?_
            refine lw_assign rfl (by decide) ?_
            refine lw_nil ?_
            refine pw_then ?_
            refine cw_seq ?_
            refine cw_seq ?_
            refine cw_region ?_
            refine lw_move rfl (by decide) ?_
            refine lw_gtr rfl (by decide) ?_
            refine lw_nil ?_
            refine pw_then ?_
            refine cw_cond rfl (fun _ => ?_) (fun h => ?_)
            · skip
              refine cw_seq ?_
              refine cw_region ?_
              refine lw_const (by decide) ?_
              refine lw_nil ?_
              refine pw_then ?_
              refine cw_ret ?_
              refine pw_then_ret ?_
              refine pw_block_ret ?_
              refine pw_then_ret ?_
              refine pw_pass_ret hp5 ?_
              refine pw_block_ret ?_
              refine pw_block_ret ?_
              refine pw_then_ret ?_
              refine pw_pass_ret hp3 ?_
              refine pw_block_ret ?_
              refine pw_block_ret ?_
              refine pw_then_ret ?_
              refine pw_pass_ret hp1 ?_
              refine pw_block_ret ?_
              refine pw_then_ret ?_
              exact pw_result rfl rfl ⟨retB _, rfl⟩
            clear h
            refine cw_sub (sub_cons (t := 0) rfl (sub_cons (t := 4) rfl (sub_cons (t := 6) rfl (sub_cons (t := 3) rfl (sub_cons (t := 8) rfl (sub_nil _)))))) ?_
            refine cw_skip ?_
            refine pw_then ?_
            refine cw_seq ?_
            refine cw_seq ?_
            refine cw_region ?_
            refine lw_const (by decide) ?_
            refine lw_nil ?_
            refine pw_then ?_
            refine cw_block ?_
            refine cw_loop (z := 3) (i := 9) (n := on5) (fun _ _ => True) (by decide) rfl rfl (sub_cons (t := 0) rfl (sub_cons (t := 4) rfl (sub_cons (t := 6) rfl (sub_cons (t := 8) rfl (sub_nil _))))) trivial ?_
            intro q6 k6 hk6 _ K6 hp6 he6
            by_cases hlt6 : k6 < on5
            · obtain ⟨b6, o6, hao6, _, hat6⟩ := z45 (by omega)
              have hc6 := hat6 k6 hlt6
              have hs6 := z55 k6 hlt6
              subst hao6
              clear hat6 z45 z55
              refine cw_seq ?_
              refine cw_seq ?_
              refine cw_region ?_
              refine lw_move rfl (by decide) ?_
              refine lw_move rfl (by decide) ?_
              refine lw_move rfl (by decide) ?_
              refine i23 rfl rfl (by assumption) (by decide) ?_
              refine f34_3 rfl (by decide) ?_
              refine lw_load rfl ag32 (by assumption) (by decide) ?_
              refine lw_move rfl (by decide) ?_
              refine i32 rfl rfl (by assumption) (by decide) ?_
              refine f54_1 rfl (by decide) ?_
              refine lw_load rfl ag52 (by assumption) (by decide) ?_
              refine lw_move rfl (by decide) ?_
              refine i52 rfl rfl (by assumption) (by decide) ?_
              refine f56_2 rfl (by decide) ?_
              refine lw_load rfl ag51 (by assumption) (by decide) ?_
              refine lw_lenSlice rfl Try.underlying51 (by decide) ?_
              refine lw_lss rfl rfl (by decide) ?_
              refine lw_nil ?_
              refine pw_then ?_
              refine cw_cond rfl (fun _ => ?_) (fun h => by have := of_decide_eq_false h; omega)
              refine cw_sub (sub_cons (t := 0) rfl (sub_cons (t := 4) rfl (sub_cons (t := 6) rfl (sub_cons (t := 8) rfl (sub_cons (t := 3) rfl (sub_cons (t := 9) rfl (sub_nil _))))))) ?_
              refine cw_skip ?_
              refine pw_then ?_
              refine cw_seq ?_
              refine cw_block ?_
              refine cw_seq ?_
              refine cw_seq ?_
              refine cw_region ?_
              refine lw_move rfl (by decide) ?_
              refine lw_move rfl (by decide) ?_
              refine i23 rfl rfl (by assumption) (by decide) ?_
              refine f34_3 rfl (by decide) ?_
              refine lw_load rfl ag32 (by assumption) (by decide) ?_
              refine lw_move rfl (by decide) ?_
              refine i32 rfl rfl (by assumption) (by decide) ?_
              refine f54_1 rfl (by decide) ?_
              refine lw_load rfl ag52 (by assumption) (by decide) ?_
              refine lw_move rfl (by decide) ?_
              refine i52 rfl rfl (by assumption) (by decide) ?_
              refine f56_2 rfl (by decide) ?_
              refine lw_load rfl ag51 (by assumption) (by decide) ?_
              refine lw_move rfl (by decide) ?_
              refine i51 rfl rfl (by assumption) (by decide) ?_
              refine lw_load rfl ag9 (by assumption) (by decide) ?_
              refine lw_lenString rfl Try.underlying9 (by decide) ?_
              refine lw_gtr rfl (by decide) ?_
              refine lw_nil ?_
              refine pw_then ?_
              refine cw_cond rfl (fun _ => ?_) (fun h => ?_)
              · skip
                refine cw_seq ?_
                refine cw_region ?_
                refine lw_const (by decide) ?_
                refine lw_nil ?_
                refine pw_then ?_
                refine cw_ret ?_
                refine pw_then_ret ?_
                refine pw_block_ret ?_
                refine pw_then_ret ?_
                refine pw_pass_ret hp6 ?_
                refine pw_block_ret ?_
                refine pw_then_ret ?_
                refine pw_block_ret ?_
                refine pw_then_ret ?_
                refine pw_pass_ret hp5 ?_
                refine pw_block_ret ?_
                refine pw_block_ret ?_
                refine pw_then_ret ?_
                refine pw_pass_ret hp3 ?_
                refine pw_block_ret ?_
                refine pw_block_ret ?_
                refine pw_then_ret ?_
                refine pw_pass_ret hp1 ?_
                refine pw_block_ret ?_
                refine pw_then_ret ?_
                exact pw_result rfl rfl ⟨retB _, rfl⟩
              clear h
              refine cw_sub (sub_cons (t := 0) rfl (sub_cons (t := 4) rfl (sub_cons (t := 6) rfl (sub_cons (t := 8) rfl (sub_cons (t := 3) rfl (sub_cons (t := 9) rfl (sub_nil _))))))) ?_
              refine cw_skip ?_
              refine pw_then ?_
              refine cw_seq ?_
              refine cw_region ?_
              refine lw_move rfl (by decide) ?_
              refine lw_move rfl (by decide) ?_
              refine lw_move rfl (by decide) ?_
              refine i23 rfl rfl (by assumption) (by decide) ?_
              refine f34_3 rfl (by decide) ?_
              refine lw_load rfl ag32 (by assumption) (by decide) ?_
              refine lw_move rfl (by decide) ?_
              refine i32 rfl rfl (by assumption) (by decide) ?_
              refine f54_1 rfl (by decide) ?_
              refine lw_load rfl ag52 (by assumption) (by decide) ?_
              refine lw_move rfl (by decide) ?_
              refine i52 rfl rfl (by assumption) (by decide) ?_
              refine f56_2 rfl (by decide) ?_
              refine lw_load rfl ag51 (by assumption) (by decide) ?_
              refine lw_move rfl (by decide) ?_
              refine i51 rfl rfl (by assumption) (by decide) ?_
              refine lw_load rfl ag9 (by assumption) (by decide) ?_
              refine lw_lenString rfl Try.underlying9 (by decide) ?_
              refine lw_add rfl rfl (by decide) ?_
              refine lw_assign rfl (by decide) ?_
              refine lw_nil ?_
              refine pw_then ?_
              refine cw_seq ?_
              refine cw_region ?_
              refine lw_move rfl (by decide) ?_
              refine lw_gtr rfl (by decide) ?_
              refine lw_nil ?_
              refine pw_then ?_
              refine cw_cond rfl (fun _ => ?_) (fun h => ?_)
              · skip
                refine cw_seq ?_
                refine cw_region ?_
                refine lw_const (by decide) ?_
                refine lw_nil ?_
                refine pw_then ?_
                refine cw_ret ?_
                refine pw_block_ret ?_
                refine pw_then_ret ?_
                refine pw_pass_ret hp6 ?_
                refine pw_block_ret ?_
                refine pw_then_ret ?_
                refine pw_block_ret ?_
                refine pw_then_ret ?_
                refine pw_pass_ret hp5 ?_
                refine pw_block_ret ?_
                refine pw_block_ret ?_
                refine pw_then_ret ?_
                refine pw_pass_ret hp3 ?_
                refine pw_block_ret ?_
                refine pw_block_ret ?_
                refine pw_then_ret ?_
                refine pw_pass_ret hp1 ?_
                refine pw_block_ret ?_
                refine pw_then_ret ?_
                exact pw_result rfl rfl ⟨retB _, rfl⟩
              clear h
              refine cw_sub (sub_cons (t := 0) rfl (sub_cons (t := 4) rfl (sub_cons (t := 6) rfl (sub_cons (t := 8) rfl (sub_cons (t := 3) rfl (sub_cons (t := 9) rfl (sub_nil _))))))) ?_
              refine cw_skip ?_
              refine pw_block_normal ?_
              refine pw_then ?_
              refine cw_region ?_
              refine lw_move rfl (by decide) ?_
              refine lw_inc rfl (by omega) (by decide) ?_
              refine lw_assign rfl (by decide) ?_
              refine lw_nil ?_
              exact he6 _ _ trivial (by omega) rfl rfl (sub_cons (t := 0) rfl (sub_cons (t := 4) rfl (sub_cons (t := 6) rfl (sub_cons (t := 8) rfl (sub_nil _)))))
            · clear z45 z55
              refine cw_seq ?_
              refine cw_seq ?_
              refine cw_region ?_
              refine lw_move rfl (by decide) ?_
              refine lw_move rfl (by decide) ?_
              refine lw_move rfl (by decide) ?_
              refine i23 rfl rfl (by assumption) (by decide) ?_
              refine f34_3 rfl (by decide) ?_
              refine lw_load rfl ag32 (by assumption) (by decide) ?_
              refine lw_move rfl (by decide) ?_
              refine i32 rfl rfl (by assumption) (by decide) ?_
              refine f54_1 rfl (by decide) ?_
              refine lw_load rfl ag52 (by assumption) (by decide) ?_
              refine lw_move rfl (by decide) ?_
              refine i52 rfl rfl (by assumption) (by decide) ?_
              refine f56_2 rfl (by decide) ?_
              refine lw_load rfl ag51 (by assumption) (by decide) ?_
              refine lw_lenSlice rfl Try.underlying51 (by decide) ?_
              refine lw_lss rfl rfl (by decide) ?_
              refine lw_nil ?_
              refine pw_then ?_
              refine cw_cond rfl (fun h => by have := of_decide_eq_true h; omega) (fun _ => ?_)
              refine cw_sub (sub_cons (t := 0) rfl (sub_cons (t := 4) rfl (sub_cons (t := 6) rfl (sub_cons (t := 8) rfl (sub_cons (t := 3) rfl (sub_cons (t := 9) rfl (sub_nil _))))))) ?_
              refine cw_exit ?_
              refine pw_then_exit ?_
              refine pw_pass_exit hp6 ?_
              refine pw_block_exit ?_
              refine pw_then ?_
              refine cw_seq ?_
              refine cw_seq ?_
              refine cw_region ?_
              refine lw_move rfl (by decide) ?_
              refine lw_move rfl (by decide) ?_
              refine i23 rfl rfl (by assumption) (by decide) ?_
              refine f34_3 rfl (by decide) ?_
              refine lw_load rfl ag32 (by assumption) (by decide) ?_
              refine lw_move rfl (by decide) ?_
              refine i32 rfl rfl (by assumption) (by decide) ?_
              refine f54_1 rfl (by decide) ?_
              refine lw_load rfl ag52 (by assumption) (by decide) ?_
              refine lw_move rfl (by decide) ?_
              refine i52 rfl rfl (by assumption) (by decide) ?_
              refine f56_3 rfl (by decide) ?_
              refine lw_load rfl ag9 (by assumption) (by decide) ?_
              refine lw_lenString rfl Try.underlying9 (by decide) ?_
              refine lw_gtr rfl (by decide) ?_
              refine lw_nil ?_
              refine pw_then ?_
              refine cw_cond rfl (fun _ => ?_) (fun h => ?_)
              · skip
                refine cw_seq ?_
                refine cw_region ?_
                refine lw_const (by decide) ?_
                refine lw_nil ?_
                refine pw_then ?_
                refine cw_ret ?_
                refine pw_then_ret ?_
                refine pw_block_ret ?_
                refine pw_then_ret ?_
                refine pw_pass_ret hp5 ?_
                refine pw_block_ret ?_
                refine pw_block_ret ?_
                refine pw_then_ret ?_
                refine pw_pass_ret hp3 ?_
                refine pw_block_ret ?_
                refine pw_block_ret ?_
                refine pw_then_ret ?_
                refine pw_pass_ret hp1 ?_
                refine pw_block_ret ?_
                refine pw_then_ret ?_
                exact pw_result rfl rfl ⟨retB _, rfl⟩
              clear h
              refine cw_sub (sub_cons (t := 0) rfl (sub_cons (t := 4) rfl (sub_cons (t := 6) rfl (sub_cons (t := 3) rfl (sub_cons (t := 8) rfl (sub_nil _)))))) ?_
              refine cw_skip ?_
              refine pw_then ?_
              refine cw_seq ?_
              refine cw_region ?_
              refine lw_move rfl (by decide) ?_
              refine lw_move rfl (by decide) ?_
              refine lw_move rfl (by decide) ?_
              refine i23 rfl rfl (by assumption) (by decide) ?_
              refine f34_3 rfl (by decide) ?_
              refine lw_load rfl ag32 (by assumption) (by decide) ?_
              refine lw_move rfl (by decide) ?_
              refine i32 rfl rfl (by assumption) (by decide) ?_
              refine f54_1 rfl (by decide) ?_
              refine lw_load rfl ag52 (by assumption) (by decide) ?_
              refine lw_move rfl (by decide) ?_
              refine i52 rfl rfl (by assumption) (by decide) ?_
              refine f56_3 rfl (by decide) ?_
              refine lw_load rfl ag9 (by assumption) (by decide) ?_
              refine lw_lenString rfl Try.underlying9 (by decide) ?_
              refine lw_add rfl rfl (by decide) ?_
              refine lw_assign rfl (by decide) ?_
              refine lw_nil ?_
              refine pw_then ?_
              refine cw_seq ?_
              refine cw_region ?_
              refine lw_move rfl (by decide) ?_
              refine lw_gtr rfl (by decide) ?_
              refine lw_nil ?_
              refine pw_then ?_
              refine cw_cond rfl (fun _ => ?_) (fun h => ?_)
              · skip
                refine cw_seq ?_
                refine cw_region ?_
                refine lw_const (by decide) ?_
                refine lw_nil ?_
                refine pw_then ?_
                refine cw_ret ?_
                refine pw_block_ret ?_
                refine pw_then_ret ?_
                refine pw_pass_ret hp5 ?_
                refine pw_block_ret ?_
                refine pw_block_ret ?_
                refine pw_then_ret ?_
                refine pw_pass_ret hp3 ?_
                refine pw_block_ret ?_
                refine pw_block_ret ?_
                refine pw_then_ret ?_
                refine pw_pass_ret hp1 ?_
                refine pw_block_ret ?_
                refine pw_then_ret ?_
                exact pw_result rfl rfl ⟨retB _, rfl⟩
              clear h
              refine cw_sub (sub_cons (t := 0) rfl (sub_cons (t := 4) rfl (sub_cons (t := 6) rfl (sub_cons (t := 3) rfl (sub_cons (t := 8) rfl (sub_nil _)))))) ?_
              refine cw_skip ?_
              refine pw_block_normal ?_
              refine pw_then ?_
              refine cw_region ?_
              refine lw_move rfl (by decide) ?_
              refine lw_inc rfl (by omega) (by decide) ?_
              refine lw_assign rfl (by decide) ?_
              refine lw_nil ?_
              exact he5 _ _ trivial (by omega) rfl rfl (sub_cons (t := 0) rfl (sub_cons (t := 4) rfl (sub_cons (t := 6) rfl (sub_nil _))))
          · clear d43
            refine cw_seq ?_
            refine cw_seq ?_
            refine cw_region ?_
            refine lw_move rfl (by decide) ?_
            refine lw_move rfl (by decide) ?_
            refine lw_move rfl (by decide) ?_
            refine i23 rfl rfl (by assumption) (by decide) ?_
            refine f34_3 rfl (by decide) ?_
            refine lw_load rfl ag32 (by assumption) (by decide) ?_
            refine lw_move rfl (by decide) ?_
            refine i32 rfl rfl (by assumption) (by decide) ?_
            refine f54_1 rfl (by decide) ?_
            refine lw_load rfl ag52 (by assumption) (by decide) ?_
            refine lw_lenSlice rfl Try.underlying52 (by decide) ?_
            refine lw_lss rfl rfl (by decide) ?_
            refine lw_nil ?_
            refine pw_then ?_
            refine cw_cond rfl (fun h => by have := of_decide_eq_true h; omega) (fun _ => ?_)
            refine cw_sub (sub_cons (t := 0) rfl (sub_cons (t := 4) rfl (sub_cons (t := 6) rfl (sub_cons (t := 3) rfl (sub_cons (t := 8) rfl (sub_nil _)))))) ?_
            refine cw_exit ?_
            refine pw_then_exit ?_
            refine pw_pass_exit hp5 ?_
            refine pw_block_exit ?_
            refine pw_block_normal ?_
            refine pw_then ?_
            refine cw_region ?_
            refine lw_move rfl (by decide) ?_
            refine lw_inc rfl (by omega) (by decide) ?_
            refine lw_assign rfl (by decide) ?_
            refine lw_nil ?_
            exact he3 _ _ trivial (by omega) rfl rfl (sub_cons (t := 0) rfl (sub_cons (t := 4) rfl (sub_nil _)))
      · clear d41
        refine cw_seq ?_
        refine cw_seq ?_
        refine cw_region ?_
        refine lw_move rfl (by decide) ?_
        refine lw_move rfl (by decide) ?_
        refine lw_move rfl (by decide) ?_
        refine i23 rfl rfl (by assumption) (by decide) ?_
        refine f34_3 rfl (by decide) ?_
        refine lw_load rfl ag32 (by assumption) (by decide) ?_
        refine lw_lenSlice rfl Try.underlying32 (by decide) ?_
        refine lw_lss rfl rfl (by decide) ?_
        refine lw_nil ?_
        refine pw_then ?_
        refine cw_cond rfl (fun h => by have := of_decide_eq_true h; omega) (fun _ => ?_)
        refine cw_sub (sub_cons (t := 0) rfl (sub_cons (t := 4) rfl (sub_cons (t := 3) rfl (sub_cons (t := 6) rfl (sub_nil _))))) ?_
        refine cw_exit ?_
        refine pw_then_exit ?_
        refine pw_pass_exit hp3 ?_
        refine pw_block_exit ?_
        refine pw_block_normal ?_
        refine pw_then ?_
        refine cw_region ?_
        refine lw_move rfl (by decide) ?_
        refine lw_inc rfl (by omega) (by decide) ?_
        refine lw_assign rfl (by decide) ?_
        refine lw_nil ?_
        exact he1 _ _ trivial (by omega) rfl rfl (sub_cons (t := 0) rfl (sub_nil _))
  · clear ha
    refine cw_seq ?_
    refine cw_seq ?_
    refine cw_region ?_
    refine lw_move rfl (by decide) ?_
    refine lw_move rfl (by decide) ?_
    refine lw_lenSlice rfl Try.underlying23 (by decide) ?_
    refine lw_lss rfl rfl (by decide) ?_
    refine lw_nil ?_
    refine pw_then ?_
    refine cw_cond rfl (fun h => by have := of_decide_eq_true h; omega) (fun _ => ?_)
    refine cw_sub (sub_cons (t := 0) rfl (sub_cons (t := 3) rfl (sub_cons (t := 4) rfl (sub_nil _)))) ?_
    refine cw_exit ?_
    refine pw_then_exit ?_
    refine pw_pass_exit hp1 ?_
    refine pw_block_exit ?_
    refine pw_then ?_
    refine cw_seq ?_
    refine cw_region ?_
    refine lw_const (by decide) ?_
    refine lw_nil ?_
    refine pw_then ?_
    refine cw_ret ?_
    exact pw_result rfl rfl ⟨retB _, rfl⟩
end Go.Proofs.Qxb6604078a
