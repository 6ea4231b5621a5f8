import Derived.Test.Qxb6604078aW4
namespace Go.Proofs.Qxb6604078a
open Go.RowKit Go.Proofs.Qxb6604078a.Env

set_option maxRecDepth 100000 in
set_option maxHeartbeats 4000000 in
theorem bytes15_any (bo ti fi : ByteArray) (sa : Option Addr) (sn sc : Nat) (S : Nat → TwoV) (ta : Option Addr) (tn tc : Nat) (T : Nat → ThrV) (w : World) (hS : Twos w sa sn sc S) (hT : Thrs w ta tn tc T) :
    Calls Try.prog 15 #[.string bo, .string ti, .slice sa sn sc, .slice ta tn tc, .string fi] w fun e w' => RetCnt T tn e ∧ w = w' := by
  have hc := hS.le
  have hm := hS.cap
  have ha := hS.here
  have gc := hT.le
  have gm := hT.cap
  have ga := hT.here
  clear hS hT
  refine calls_env (N := 330) (env := [(0, .string bo), (1, .string ti), (2, .slice sa sn sc), (3, .slice ta tn tc), (4, .string fi)]) Try.func15 rfl rfl (by simp) (args_five _ _ _ _ _) ?_
  refine cw_seq ?_
  refine cw_region ?_
  refine lw_const (by decide) ?_
  refine lw_nil ?_
  refine pw_then ?_
  refine cw_seq ?_
  refine cw_region ?_
  refine lw_const (by decide) ?_
  refine lw_nil ?_
  refine pw_then ?_
  refine cw_seq ?_
  refine cw_seq ?_
  refine cw_region ?_
  refine lw_move rfl (by decide) ?_
  refine lw_lenString rfl Try.underlying9 (by decide) ?_
  refine lw_gtr rfl (by decide) ?_
  refine lw_nil ?_
  refine pw_then ?_
  refine cw_cond rfl (fun _ => ?_) (fun h => ?_)
  · skip
    refine cw_seq ?_
    refine cw_region ?_
    refine lw_const (by decide) ?_
    refine lw_nil ?_
    refine pw_then ?_
    refine cw_ret ?_
    refine pw_then_ret ?_
    exact pw_result rfl rfl ⟨cntF _ _, rfl⟩
  have hN1 := of_decide_eq_false h; clear h
  refine cw_sub (sub_cons (t := 0) rfl (sub_cons (t := 1) rfl (sub_cons (t := 2) rfl (sub_cons (t := 3) rfl (sub_cons (t := 4) rfl (sub_cons (t := 11) rfl (sub_nil _))))))) ?_
  refine cw_skip ?_
  refine pw_then ?_
  refine cw_seq ?_
  refine cw_region ?_
  refine lw_move rfl (by decide) ?_
  refine lw_move rfl (by decide) ?_
  refine lw_lenString rfl Try.underlying9 (by decide) ?_
  refine lw_addn rfl rfl (by omega) (by omega) (by decide) ?_
  refine lw_assign rfl (by decide) ?_
  refine lw_nil ?_
  refine pw_then ?_
  refine cw_seq ?_
  refine cw_seq ?_
  refine cw_region ?_
  refine lw_move rfl (by decide) ?_
  refine lw_gtr rfl (by decide) ?_
  refine lw_nil ?_
  refine pw_then ?_
  refine cw_cond rfl (fun _ => ?_) (fun h => ?_)
  · skip
    refine cw_seq ?_
    refine cw_region ?_
    refine lw_const (by decide) ?_
    refine lw_nil ?_
    refine pw_then ?_
    refine cw_ret ?_
    refine pw_then_ret ?_
    exact pw_result rfl rfl ⟨cntF _ _, rfl⟩
  have hN2 := of_decide_eq_false h; clear h
  refine cw_sub (sub_cons (t := 0) rfl (sub_cons (t := 1) rfl (sub_cons (t := 2) rfl (sub_cons (t := 3) rfl (sub_cons (t := 4) rfl (sub_cons (t := 11) rfl (sub_nil _))))))) ?_
  refine cw_skip ?_
  refine pw_then ?_
  refine cw_seq ?_
  refine cw_seq ?_
  refine cw_region ?_
  refine lw_move rfl (by decide) ?_
  refine lw_lenString rfl Try.underlying9 (by decide) ?_
  refine lw_gtr rfl (by decide) ?_
  refine lw_nil ?_
  refine pw_then ?_
  refine cw_cond rfl (fun _ => ?_) (fun h => ?_)
  · skip
    refine cw_seq ?_
    refine cw_region ?_
    refine lw_const (by decide) ?_
    refine lw_nil ?_
    refine pw_then ?_
    refine cw_ret ?_
    refine pw_then_ret ?_
    exact pw_result rfl rfl ⟨cntF _ _, rfl⟩
  have hN3 := of_decide_eq_false h; clear h
  refine cw_sub (sub_cons (t := 0) rfl (sub_cons (t := 1) rfl (sub_cons (t := 2) rfl (sub_cons (t := 3) rfl (sub_cons (t := 4) rfl (sub_cons (t := 11) rfl (sub_nil _))))))) ?_
  refine cw_skip ?_
  refine pw_then ?_
  refine cw_seq ?_
  refine cw_region ?_
  refine lw_move rfl (by decide) ?_
  refine lw_move rfl (by decide) ?_
  refine lw_lenString rfl Try.underlying9 (by decide) ?_
  refine lw_addn rfl rfl (by omega) (by omega) (by decide) ?_
  refine lw_assign rfl (by decide) ?_
  refine lw_nil ?_
  refine pw_then ?_
  refine cw_seq ?_
  refine cw_seq ?_
  refine cw_region ?_
  refine lw_move rfl (by decide) ?_
  refine lw_gtr rfl (by decide) ?_
  refine lw_nil ?_
  refine pw_then ?_
  refine cw_cond rfl (fun _ => ?_) (fun h => ?_)
  · skip
    refine cw_seq ?_
    refine cw_region ?_
    refine lw_const (by decide) ?_
    refine lw_nil ?_
    refine pw_then ?_
    refine cw_ret ?_
    refine pw_then_ret ?_
    exact pw_result rfl rfl ⟨cntF _ _, rfl⟩
  have hN4 := of_decide_eq_false h; clear h
  refine cw_sub (sub_cons (t := 0) rfl (sub_cons (t := 1) rfl (sub_cons (t := 2) rfl (sub_cons (t := 3) rfl (sub_cons (t := 4) rfl (sub_cons (t := 11) rfl (sub_nil _))))))) ?_
  refine cw_skip ?_
  refine pw_then ?_
  refine cw_seq ?_
  refine cw_seq ?_
  refine cw_region ?_
  refine lw_move rfl (by decide) ?_
  refine lw_lenSlice rfl Try.underlying31 (by decide) ?_
  refine lw_gtr rfl (by decide) ?_
  refine lw_nil ?_
  refine pw_then ?_
  refine cw_cond rfl (fun _ => ?_) (fun h => ?_)
  · skip
    refine cw_seq ?_
    refine cw_region ?_
    refine lw_const (by decide) ?_
    refine lw_nil ?_
    refine pw_then ?_
    refine cw_ret ?_
    refine pw_then_ret ?_
    exact pw_result rfl rfl ⟨cntF _ _, rfl⟩
  have hN5 := of_decide_eq_false h; clear h
  refine cw_sub (sub_cons (t := 0) rfl (sub_cons (t := 1) rfl (sub_cons (t := 2) rfl (sub_cons (t := 3) rfl (sub_cons (t := 4) rfl (sub_cons (t := 11) rfl (sub_nil _))))))) ?_
  refine cw_skip ?_
  refine pw_then ?_
  refine cw_seq ?_
  refine cw_region ?_
  refine lw_move rfl (by decide) ?_
  refine lw_move rfl (by decide) ?_
  refine lw_lenSlice rfl Try.underlying31 (by decide) ?_
  refine lw_addn rfl rfl (by omega) (by omega) (by decide) ?_
  refine lw_assign rfl (by decide) ?_
  refine lw_nil ?_
  refine pw_then ?_
  refine cw_seq ?_
  refine cw_seq ?_
  refine cw_region ?_
  refine lw_move rfl (by decide) ?_
  refine lw_gtr rfl (by decide) ?_
  refine lw_nil ?_
  refine pw_then ?_
  refine cw_cond rfl (fun _ => ?_) (fun h => ?_)
  · skip
    refine cw_seq ?_
    refine cw_region ?_
    refine lw_const (by decide) ?_
    refine lw_nil ?_
    refine pw_then ?_
    refine cw_ret ?_
    refine pw_then_ret ?_
    exact pw_result rfl rfl ⟨cntF _ _, rfl⟩
  have hN6 := of_decide_eq_false h; clear h
  refine cw_sub (sub_cons (t := 0) rfl (sub_cons (t := 1) rfl (sub_cons (t := 2) rfl (sub_cons (t := 3) rfl (sub_cons (t := 4) rfl (sub_cons (t := 11) rfl (sub_nil _))))))) ?_
  refine cw_skip ?_
  refine pw_then ?_
  refine cw_seq ?_
  refine cw_seq ?_
  refine cw_region ?_
  refine lw_const (by decide) ?_
  refine lw_nil ?_
  refine pw_then ?_
  refine cw_block ?_
  refine cw_loop (z := 11) (i := 12) (n := sn) (fun q k => ((0 : Nat) : Int) ≤ q ∧ q ≤ 1048576) (by decide) rfl rfl (sub_cons (t := 0) rfl (sub_cons (t := 1) rfl (sub_cons (t := 2) rfl (sub_cons (t := 3) rfl (sub_cons (t := 4) rfl (sub_nil _)))))) ⟨by omega, by omega⟩ ?_
  intro q1 k1 hk1 hr1 K1 hp1 he1
  obtain ⟨hl1, hu1⟩ := hr1
  by_cases hlt1 : k1 < sn
  · obtain ⟨b1, o1, hao1, _, hat1⟩ := ha (by omega)
    have hc1 := hat1 k1 hlt1
    generalize S k1 = d1 at hc1
    obtain ⟨dx1, dy1⟩ := d1
    obtain ⟨x01, x11, y01, y11⟩ := hc1
    simp only at x01 x11 y01 y11
    subst hao1
    clear hat1 ha
    refine cw_seq ?_
    refine cw_seq ?_
    refine cw_region ?_
    refine lw_move rfl (by decide) ?_
    refine lw_move rfl (by decide) ?_
    refine lw_lenSlice rfl Try.underlying31 (by decide) ?_
    refine lw_lss rfl rfl (by decide) ?_
    refine lw_nil ?_
    refine pw_then ?_
    refine cw_cond rfl (fun _ => ?_) (fun h => by have := of_decide_eq_false h; omega)
    refine cw_sub (sub_cons (t := 0) rfl (sub_cons (t := 1) rfl (sub_cons (t := 2) rfl (sub_cons (t := 3) rfl (sub_cons (t := 4) rfl (sub_cons (t := 11) rfl (sub_cons (t := 12) rfl (sub_nil _)))))))) ?_
    refine cw_skip ?_
    refine pw_then ?_
    refine cw_seq ?_
    refine cw_block ?_
    refine cw_seq ?_
    refine cw_seq ?_
    refine cw_region ?_
    refine lw_move rfl (by decide) ?_
    refine lw_move rfl (by decide) ?_
    refine i31 rfl rfl (by assumption) (by decide) ?_
    refine f72_0 rfl (by decide) ?_
    refine lw_load rfl ag9 (by assumption) (by decide) ?_
    refine lw_lenString rfl Try.underlying9 (by decide) ?_
    refine lw_gtr rfl (by decide) ?_
    refine lw_nil ?_
    refine pw_then ?_
    refine cw_cond rfl (fun _ => ?_) (fun h => ?_)
    · skip
      refine cw_seq ?_
      refine cw_region ?_
      refine lw_const (by decide) ?_
      refine lw_nil ?_
      refine pw_then ?_
      refine cw_ret ?_
      refine pw_then_ret ?_
      refine pw_block_ret ?_
      refine pw_then_ret ?_
      refine pw_pass_ret hp1 ?_
      refine pw_block_ret ?_
      refine pw_then_ret ?_
      exact pw_result rfl rfl ⟨cntF _ _, rfl⟩
    have hN7 := of_decide_eq_false h; clear h
    refine cw_sub (sub_cons (t := 0) rfl (sub_cons (t := 1) rfl (sub_cons (t := 2) rfl (sub_cons (t := 3) rfl (sub_cons (t := 4) rfl (sub_cons (t := 11) rfl (sub_cons (t := 12) rfl (sub_nil _)))))))) ?_
    refine cw_skip ?_
    refine pw_then ?_
    refine cw_seq ?_
    refine cw_region ?_
    refine lw_move rfl (by decide) ?_
    refine lw_move rfl (by decide) ?_
    refine lw_move rfl (by decide) ?_
    refine i31 rfl rfl (by assumption) (by decide) ?_
    refine f72_0 rfl (by decide) ?_
    refine lw_load rfl ag9 (by assumption) (by decide) ?_
    refine lw_lenString rfl Try.underlying9 (by decide) ?_
    refine lw_addn rfl rfl (by omega) (by omega) (by decide) ?_
    refine lw_assign rfl (by decide) ?_
    refine lw_nil ?_
    refine pw_then ?_
    refine cw_seq ?_
    refine cw_seq ?_
    refine cw_region ?_
    refine lw_move rfl (by decide) ?_
    refine lw_gtr rfl (by decide) ?_
    refine lw_nil ?_
    refine pw_then ?_
    refine cw_cond rfl (fun _ => ?_) (fun h => ?_)
    · skip
      refine cw_seq ?_
      refine cw_region ?_
      refine lw_const (by decide) ?_
      refine lw_nil ?_
      refine pw_then ?_
      refine cw_ret ?_
      refine pw_then_ret ?_
      refine pw_block_ret ?_
      refine pw_then_ret ?_
      refine pw_pass_ret hp1 ?_
      refine pw_block_ret ?_
      refine pw_then_ret ?_
      exact pw_result rfl rfl ⟨cntF _ _, rfl⟩
    have hN8 := of_decide_eq_false h; clear h
    refine cw_sub (sub_cons (t := 0) rfl (sub_cons (t := 1) rfl (sub_cons (t := 2) rfl (sub_cons (t := 3) rfl (sub_cons (t := 4) rfl (sub_cons (t := 11) rfl (sub_cons (t := 12) rfl (sub_nil _)))))))) ?_
    refine cw_skip ?_
    refine pw_then ?_
    refine cw_seq ?_
    refine cw_seq ?_
    refine cw_region ?_
    refine lw_move rfl (by decide) ?_
    refine lw_move rfl (by decide) ?_
    refine i31 rfl rfl (by assumption) (by decide) ?_
    refine f72_1 rfl (by decide) ?_
    refine lw_load rfl ag9 (by assumption) (by decide) ?_
    refine lw_lenString rfl Try.underlying9 (by decide) ?_
    refine lw_gtr rfl (by decide) ?_
    refine lw_nil ?_
    refine pw_then ?_
    refine cw_cond rfl (fun _ => ?_) (fun h => ?_)
    · skip
      refine cw_seq ?_
      refine cw_region ?_
      refine lw_const (by decide) ?_
      refine lw_nil ?_
      refine pw_then ?_
      refine cw_ret ?_
      refine pw_then_ret ?_
      refine pw_block_ret ?_
      refine pw_then_ret ?_
      refine pw_pass_ret hp1 ?_
      refine pw_block_ret ?_
      refine pw_then_ret ?_
      exact pw_result rfl rfl ⟨cntF _ _, rfl⟩
    have hN9 := of_decide_eq_false h; clear h
    refine cw_sub (sub_cons (t := 0) rfl (sub_cons (t := 1) rfl (sub_cons (t := 2) rfl (sub_cons (t := 3) rfl (sub_cons (t := 4) rfl (sub_cons (t := 11) rfl (sub_cons (t := 12) rfl (sub_nil _)))))))) ?_
    refine cw_skip ?_
    refine pw_then ?_
    refine cw_seq ?_
    refine cw_region ?_
    refine lw_move rfl (by decide) ?_
    refine lw_move rfl (by decide) ?_
    refine lw_move rfl (by decide) ?_
    refine i31 rfl rfl (by assumption) (by decide) ?_
    refine f72_1 rfl (by decide) ?_
    refine lw_load rfl ag9 (by assumption) (by decide) ?_
    refine lw_lenString rfl Try.underlying9 (by decide) ?_
    refine lw_addn rfl rfl (by omega) (by omega) (by decide) ?_
    refine lw_assign rfl (by decide) ?_
    refine lw_nil ?_
    refine pw_then ?_
    refine cw_seq ?_
    refine cw_region ?_
    refine lw_move rfl (by decide) ?_
    refine lw_gtr rfl (by decide) ?_
    refine lw_nil ?_
    refine pw_then ?_
    refine cw_cond rfl (fun _ => ?_) (fun h => ?_)
    · skip
      refine cw_seq ?_
      refine cw_region ?_
      refine lw_const (by decide) ?_
      refine lw_nil ?_
      refine pw_then ?_
      refine cw_ret ?_
      refine pw_block_ret ?_
      refine pw_then_ret ?_
      refine pw_pass_ret hp1 ?_
      refine pw_block_ret ?_
      refine pw_then_ret ?_
      exact pw_result rfl rfl ⟨cntF _ _, rfl⟩
    have hN10 := of_decide_eq_false h; clear h
    refine cw_sub (sub_cons (t := 0) rfl (sub_cons (t := 1) rfl (sub_cons (t := 2) rfl (sub_cons (t := 3) rfl (sub_cons (t := 4) rfl (sub_cons (t := 11) rfl (sub_cons (t := 12) rfl (sub_nil _)))))))) ?_
    refine cw_skip ?_
    refine pw_block_normal ?_
    refine pw_then ?_
    refine cw_region ?_
    refine lw_move rfl (by decide) ?_
    refine lw_inc rfl (by omega) (by decide) ?_
    refine lw_assign rfl (by decide) ?_
    refine lw_nil ?_
    exact he1 _ _ ⟨by omega, by omega⟩ (by omega) rfl rfl (sub_cons (t := 0) rfl (sub_cons (t := 1) rfl (sub_cons (t := 2) rfl (sub_cons (t := 3) rfl (sub_cons (t := 4) rfl (sub_nil _))))))
  · clear ha
    refine cw_seq ?_
    refine cw_seq ?_
    refine cw_region ?_
    refine lw_move rfl (by decide) ?_
    refine lw_move rfl (by decide) ?_
    refine lw_lenSlice rfl Try.underlying31 (by decide) ?_
    refine lw_lss rfl rfl (by decide) ?_
    refine lw_nil ?_
    refine pw_then ?_
    refine cw_cond rfl (fun h => by have := of_decide_eq_true h; omega) (fun _ => ?_)
    refine cw_sub (sub_cons (t := 0) rfl (sub_cons (t := 1) rfl (sub_cons (t := 2) rfl (sub_cons (t := 3) rfl (sub_cons (t := 4) rfl (sub_cons (t := 11) rfl (sub_cons (t := 12) rfl (sub_nil _)))))))) ?_
    refine cw_exit ?_
    refine pw_then_exit ?_
    refine pw_pass_exit hp1 ?_
    refine pw_block_exit ?_
    refine pw_then ?_
    refine cw_seq ?_
    refine cw_seq ?_
    refine cw_region ?_
    refine lw_move rfl (by decide) ?_
    refine lw_lenSlice rfl Try.underlying32 (by decide) ?_
    refine lw_gtr rfl (by decide) ?_
    refine lw_nil ?_
    refine pw_then ?_
    refine cw_cond rfl (fun _ => ?_) (fun h => ?_)
    · skip
      refine cw_seq ?_
      refine cw_region ?_
      refine lw_const (by decide) ?_
      refine lw_nil ?_
      refine pw_then ?_
      refine cw_ret ?_
      refine pw_then_ret ?_
      exact pw_result rfl rfl ⟨cntF _ _, rfl⟩
    have hN11 := of_decide_eq_false h; clear h
    refine cw_sub (sub_cons (t := 0) rfl (sub_cons (t := 1) rfl (sub_cons (t := 2) rfl (sub_cons (t := 3) rfl (sub_cons (t := 4) rfl (sub_cons (t := 11) rfl (sub_nil _))))))) ?_
    refine cw_skip ?_
    refine pw_then ?_
    refine cw_seq ?_
    refine cw_region ?_
    refine lw_move rfl (by decide) ?_
    refine lw_move rfl (by decide) ?_
    refine lw_lenSlice rfl Try.underlying32 (by decide) ?_
    refine lw_addn rfl rfl (by omega) (by omega) (by decide) ?_
    refine lw_assign rfl (by decide) ?_
    refine lw_nil ?_
    refine pw_then ?_
    refine cw_seq ?_
    refine cw_seq ?_
    refine cw_region ?_
    refine lw_move rfl (by decide) ?_
    refine lw_gtr rfl (by decide) ?_
    refine lw_nil ?_
    refine pw_then ?_
    refine cw_cond rfl (fun _ => ?_) (fun h => ?_)
    · skip
      refine cw_seq ?_
      refine cw_region ?_
      refine lw_const (by decide) ?_
      refine lw_nil ?_
      refine pw_then ?_
      refine cw_ret ?_
      refine pw_then_ret ?_
      exact pw_result rfl rfl ⟨cntF _ _, rfl⟩
    have hN12 := of_decide_eq_false h; clear h
    refine cw_sub (sub_cons (t := 0) rfl (sub_cons (t := 1) rfl (sub_cons (t := 2) rfl (sub_cons (t := 3) rfl (sub_cons (t := 4) rfl (sub_cons (t := 11) rfl (sub_nil _))))))) ?_
    refine cw_skip ?_
    refine pw_then ?_
    refine cw_seq ?_
    refine cw_seq ?_
    refine cw_region ?_
    refine lw_const (by decide) ?_
    refine lw_nil ?_
    refine pw_then ?_
    refine cw_block ?_
    refine cw_loop (z := 11) (i := 13) (n := tn) (fun q k => ((thrSum T k : Nat) : Int) ≤ q ∧ q ≤ 1048576) (by decide) rfl rfl (sub_cons (t := 0) rfl (sub_cons (t := 1) rfl (sub_cons (t := 2) rfl (sub_cons (t := 3) rfl (sub_cons (t := 4) rfl (sub_nil _)))))) ⟨by simp only [thrSum]; omega, by omega⟩ ?_
    intro q2 k2 hk2 hr2 K2 hp2 he2
    obtain ⟨hl2, hu2⟩ := hr2
    by_cases hlt2 : k2 < tn
    · obtain ⟨b2, o2, hao2, _, hat2⟩ := ga (by omega)
      have hc2 := hat2 k2 hlt2
      have hS2 : thrSum T (k2 + 1) = thrSum T k2 + ofSum (T k2).C (T k2).cn := rfl
      generalize T k2 = d2 at hc2 hS2
      obtain ⟨ka2, kn2, kc2, K02, ca2, cn2, cc2, C2⟩ := d2
      obtain ⟨x02, x12, s02, s12⟩ := hc2
      simp only at x02 x12 s02 s12 hS2
      obtain ⟨k12, k22, -, k42, k52⟩ := s02
      obtain ⟨d12, d22, -, d42⟩ := s12
      subst hao2
      clear hat2 ga
      refine cw_seq ?_
      refine cw_seq ?_
      refine cw_region ?_
      refine lw_move rfl (by decide) ?_
      refine lw_move rfl (by decide) ?_
      refine lw_lenSlice rfl Try.underlying32 (by decide) ?_
      refine lw_lss rfl rfl (by decide) ?_
      refine lw_nil ?_
      refine pw_then ?_
      refine cw_cond rfl (fun _ => ?_) (fun h => by have := of_decide_eq_false h; omega)
      refine cw_sub (sub_cons (t := 0) rfl (sub_cons (t := 1) rfl (sub_cons (t := 2) rfl (sub_cons (t := 3) rfl (sub_cons (t := 4) rfl (sub_cons (t := 11) rfl (sub_cons (t := 13) rfl (sub_nil _)))))))) ?_
      refine cw_skip ?_
      refine pw_then ?_
      refine cw_seq ?_
      refine cw_block ?_
      refine cw_seq ?_
      refine cw_seq ?_
      refine cw_region ?_
      refine lw_move rfl (by decide) ?_
      refine lw_move rfl (by decide) ?_
      refine i32 rfl rfl (by assumption) (by decide) ?_
      refine f54_0 rfl (by decide) ?_
      refine lw_load rfl ag51 (by assumption) (by decide) ?_
      refine lw_lenSlice rfl Try.underlying51 (by decide) ?_
      refine lw_gtr rfl (by decide) ?_
      refine lw_nil ?_
      refine pw_then ?_
      refine cw_cond rfl (fun _ => ?_) (fun h => ?_)
      · skip
        refine cw_seq ?_
        refine cw_region ?_
        refine lw_const (by decide) ?_
        refine lw_nil ?_
        refine pw_then ?_
        refine cw_ret ?_
        refine pw_then_ret ?_
        refine pw_block_ret ?_
        refine pw_then_ret ?_
        refine pw_pass_ret hp2 ?_
        refine pw_block_ret ?_
        refine pw_then_ret ?_
        exact pw_result rfl rfl ⟨cntF _ _, rfl⟩
      have hN13 := of_decide_eq_false h; clear h
      refine cw_sub (sub_cons (t := 0) rfl (sub_cons (t := 1) rfl (sub_cons (t := 2) rfl (sub_cons (t := 3) rfl (sub_cons (t := 4) rfl (sub_cons (t := 11) rfl (sub_cons (t := 13) rfl (sub_nil _)))))))) ?_
      refine cw_skip ?_
      refine pw_then ?_
      refine cw_seq ?_
      refine cw_region ?_
      refine lw_move rfl (by decide) ?_
      refine lw_move rfl (by decide) ?_
      refine lw_move rfl (by decide) ?_
      refine i32 rfl rfl (by assumption) (by decide) ?_
      refine f54_0 rfl (by decide) ?_
      refine lw_load rfl ag51 (by assumption) (by decide) ?_
      refine lw_lenSlice rfl Try.underlying51 (by decide) ?_
      refine lw_addn rfl rfl (by omega) (by omega) (by decide) ?_
      refine lw_assign rfl (by decide) ?_
      refine lw_nil ?_
      refine pw_then ?_
      refine cw_seq ?_
      refine cw_seq ?_
      refine cw_region ?_
      refine lw_move rfl (by decide) ?_
      refine lw_gtr rfl (by decide) ?_
      refine lw_nil ?_
      refine pw_then ?_
      refine cw_cond rfl (fun _ => ?_) (fun h => ?_)
      · skip
        refine cw_seq ?_
        refine cw_region ?_
        refine lw_const (by decide) ?_
        refine lw_nil ?_
        refine pw_then ?_
        refine cw_ret ?_
        refine pw_then_ret ?_
        refine pw_block_ret ?_
        refine pw_then_ret ?_
        refine pw_pass_ret hp2 ?_
        refine pw_block_ret ?_
        refine pw_then_ret ?_
        exact pw_result rfl rfl ⟨cntF _ _, rfl⟩
      have hN14 := of_decide_eq_false h; clear h
      refine cw_sub (sub_cons (t := 0) rfl (sub_cons (t := 1) rfl (sub_cons (t := 2) rfl (sub_cons (t := 3) rfl (sub_cons (t := 4) rfl (sub_cons (t := 11) rfl (sub_cons (t := 13) rfl (sub_nil _)))))))) ?_
      refine cw_skip ?_
      refine pw_then ?_
      refine cw_seq ?_
      refine cw_seq ?_
      refine cw_region ?_
      refine lw_const (by decide) ?_
      refine lw_nil ?_
      refine pw_then ?_
      refine cw_block ?_
      refine cw_loop (z := 11) (i := 14) (n := kn2) (fun q k => ((thrSum T k2 : Nat) : Int) ≤ q ∧ q ≤ 1048576) (by decide) rfl rfl (sub_cons (t := 0) rfl (sub_cons (t := 1) rfl (sub_cons (t := 2) rfl (sub_cons (t := 3) rfl (sub_cons (t := 4) rfl (sub_cons (t := 13) rfl (sub_nil _))))))) ⟨by omega, by omega⟩ ?_
      intro q3 k3 hk3 hr3 K3 hp3 he3
      obtain ⟨hl3, hu3⟩ := hr3
      by_cases hlt3 : k3 < kn2
      · obtain ⟨b3, o3, hao3, _, hat3⟩ := k42 (by omega)
        have hc3 := hat3 k3 hlt3
        have hs3 := k52 k3 hlt3
        subst hao3
        clear hat3 k42 k52
        refine cw_seq ?_
        refine cw_seq ?_
        refine cw_region ?_
        refine lw_move rfl (by decide) ?_
        refine lw_move rfl (by decide) ?_
        refine lw_move rfl (by decide) ?_
        refine i32 rfl rfl (by assumption) (by decide) ?_
        refine f54_0 rfl (by decide) ?_
        refine lw_load rfl ag51 (by assumption) (by decide) ?_
        refine lw_lenSlice rfl Try.underlying51 (by decide) ?_
        refine lw_lss rfl rfl (by decide) ?_
        refine lw_nil ?_
        refine pw_then ?_
        refine cw_cond rfl (fun _ => ?_) (fun h => by have := of_decide_eq_false h; omega)
        refine cw_sub (sub_cons (t := 0) rfl (sub_cons (t := 1) rfl (sub_cons (t := 2) rfl (sub_cons (t := 3) rfl (sub_cons (t := 4) rfl (sub_cons (t := 13) rfl (sub_cons (t := 11) rfl (sub_cons (t := 14) rfl (sub_nil _))))))))) ?_
        refine cw_skip ?_
        refine pw_then ?_
        refine cw_seq ?_
        refine cw_block ?_
        refine cw_seq ?_
        refine cw_seq ?_
        refine cw_region ?_
        refine lw_move rfl (by decide) ?_
        refine lw_move rfl (by decide) ?_
        refine i32 rfl rfl (by assumption) (by decide) ?_
        refine f54_0 rfl (by decide) ?_
        refine lw_load rfl ag51 (by assumption) (by decide) ?_
        refine lw_move rfl (by decide) ?_
        refine i51 rfl rfl (by assumption) (by decide) ?_
        refine lw_load rfl ag9 (by assumption) (by decide) ?_
        refine lw_lenString rfl Try.underlying9 (by decide) ?_
        refine lw_gtr rfl (by decide) ?_
        refine lw_nil ?_
        refine pw_then ?_
        refine cw_cond rfl (fun _ => ?_) (fun h => ?_)
        · skip
          refine cw_seq ?_
          refine cw_region ?_
          refine lw_const (by decide) ?_
          refine lw_nil ?_
          refine pw_then ?_
          refine cw_ret ?_
          refine pw_then_ret ?_
          refine pw_block_ret ?_
          refine pw_then_ret ?_
          refine pw_pass_ret hp3 ?_
          refine pw_block_ret ?_
          refine pw_then_ret ?_
          refine pw_block_ret ?_
          refine pw_then_ret ?_
          refine pw_pass_ret hp2 ?_
          refine pw_block_ret ?_
          refine pw_then_ret ?_
          exact pw_result rfl rfl ⟨cntF _ _, rfl⟩
        have hN15 := of_decide_eq_false h; clear h
        refine cw_sub (sub_cons (t := 0) rfl (sub_cons (t := 1) rfl (sub_cons (t := 2) rfl (sub_cons (t := 3) rfl (sub_cons (t := 4) rfl (sub_cons (t := 13) rfl (sub_cons (t := 11) rfl (sub_cons (t := 14) rfl (sub_nil _))))))))) ?_
        refine cw_skip ?_
        refine pw_then ?_
        refine cw_seq ?_
        refine cw_region ?_
        refine lw_move rfl (by decide) ?_
        refine lw_move rfl (by decide) ?_
        refine lw_move rfl (by decide) ?_
        refine i32 rfl rfl (by assumption) (by decide) ?_
        refine f54_0 rfl (by decide) ?_
        refine lw_load rfl ag51 (by assumption) (by decide) ?_
        refine lw_move rfl (by decide) ?_
        refine i51 rfl rfl (by assumption) (by decide) ?_
        refine lw_load rfl ag9 (by assumption) (by decide) ?_
        refine lw_lenString rfl Try.underlying9 (by decide) ?_
        refine lw_addn rfl rfl (by omega) (by omega) (by decide) ?_
        refine lw_assign rfl (by decide) ?_
        refine lw_nil ?_
        refine pw_then ?_
        refine cw_seq ?_
        refine cw_region ?_
        refine lw_move rfl (by decide) ?_
        refine lw_gtr rfl (by decide) ?_
        refine lw_nil ?_
        refine pw_then ?_
        refine cw_cond rfl (fun _ => ?_) (fun h => ?_)
        · skip
          refine cw_seq ?_
          refine cw_region ?_
          refine lw_const (by decide) ?_
          refine lw_nil ?_
          refine pw_then ?_
          refine cw_ret ?_
          refine pw_block_ret ?_
          refine pw_then_ret ?_
          refine pw_pass_ret hp3 ?_
          refine pw_block_ret ?_
          refine pw_then_ret ?_
          refine pw_block_ret ?_
          refine pw_then_ret ?_
          refine pw_pass_ret hp2 ?_
          refine pw_block_ret ?_
          refine pw_then_ret ?_
          exact pw_result rfl rfl ⟨cntF _ _, rfl⟩
        have hN16 := of_decide_eq_false h; clear h
        refine cw_sub (sub_cons (t := 0) rfl (sub_cons (t := 1) rfl (sub_cons (t := 2) rfl (sub_cons (t := 3) rfl (sub_cons (t := 4) rfl (sub_cons (t := 13) rfl (sub_cons (t := 11) rfl (sub_cons (t := 14) rfl (sub_nil _))))))))) ?_
        refine cw_skip ?_
        refine pw_block_normal ?_
        refine pw_then ?_
        refine cw_region ?_
        refine lw_move rfl (by decide) ?_
        refine lw_inc rfl (by omega) (by decide) ?_
        refine lw_assign rfl (by decide) ?_
        refine lw_nil ?_
        exact he3 _ _ ⟨by omega, by omega⟩ (by omega) rfl rfl (sub_cons (t := 0) rfl (sub_cons (t := 1) rfl (sub_cons (t := 2) rfl (sub_cons (t := 3) rfl (sub_cons (t := 4) rfl (sub_cons (t := 13) rfl (sub_nil _)))))))
      · clear k42 k52
        refine cw_seq ?_
        refine cw_seq ?_
        refine cw_region ?_
        refine lw_move rfl (by decide) ?_
        refine lw_move rfl (by decide) ?_
        refine lw_move rfl (by decide) ?_
        refine i32 rfl rfl (by assumption) (by decide) ?_
        refine f54_0 rfl (by decide) ?_
        refine lw_load rfl ag51 (by assumption) (by decide) ?_
        refine lw_lenSlice rfl Try.underlying51 (by decide) ?_
        refine lw_lss rfl rfl (by decide) ?_
        refine lw_nil ?_
        refine pw_then ?_
        refine cw_cond rfl (fun h => by have := of_decide_eq_true h; omega) (fun _ => ?_)
        refine cw_sub (sub_cons (t := 0) rfl (sub_cons (t := 1) rfl (sub_cons (t := 2) rfl (sub_cons (t := 3) rfl (sub_cons (t := 4) rfl (sub_cons (t := 13) rfl (sub_cons (t := 11) rfl (sub_cons (t := 14) rfl (sub_nil _))))))))) ?_
        refine cw_exit ?_
        refine pw_then_exit ?_
        refine pw_pass_exit hp3 ?_
        refine pw_block_exit ?_
        refine pw_then ?_
        refine cw_seq ?_
        refine cw_seq ?_
        refine cw_region ?_
        refine lw_move rfl (by decide) ?_
        refine lw_move rfl (by decide) ?_
        refine i32 rfl rfl (by assumption) (by decide) ?_
        refine f54_1 rfl (by decide) ?_
        refine lw_load rfl ag52 (by assumption) (by decide) ?_
        refine lw_lenSlice rfl Try.underlying52 (by decide) ?_
        refine lw_gtr rfl (by decide) ?_
        refine lw_nil ?_
        refine pw_then ?_
        refine cw_cond rfl (fun _ => ?_) (fun h => ?_)
        · skip
          refine cw_seq ?_
          refine cw_region ?_
          refine lw_const (by decide) ?_
          refine lw_nil ?_
          refine pw_then ?_
          refine cw_ret ?_
          refine pw_then_ret ?_
          refine pw_block_ret ?_
          refine pw_then_ret ?_
          refine pw_pass_ret hp2 ?_
          refine pw_block_ret ?_
          refine pw_then_ret ?_
          exact pw_result rfl rfl ⟨cntF _ _, rfl⟩
        have hN17 := of_decide_eq_false h; clear h
        refine cw_sub (sub_cons (t := 0) rfl (sub_cons (t := 1) rfl (sub_cons (t := 2) rfl (sub_cons (t := 3) rfl (sub_cons (t := 4) rfl (sub_cons (t := 11) rfl (sub_cons (t := 13) rfl (sub_nil _)))))))) ?_
        refine cw_skip ?_
        refine pw_then ?_
        refine cw_seq ?_
        refine cw_region ?_
        refine lw_move rfl (by decide) ?_
        refine lw_move rfl (by decide) ?_
        refine lw_move rfl (by decide) ?_
        refine i32 rfl rfl (by assumption) (by decide) ?_
        refine f54_1 rfl (by decide) ?_
        refine lw_load rfl ag52 (by assumption) (by decide) ?_
        refine lw_lenSlice rfl Try.underlying52 (by decide) ?_
        refine lw_addn rfl rfl (by omega) (by omega) (by decide) ?_
        refine lw_assign rfl (by decide) ?_
        refine lw_nil ?_
        refine pw_then ?_
        refine cw_seq ?_
        refine cw_seq ?_
        refine cw_region ?_
        refine lw_move rfl (by decide) ?_
        refine lw_gtr rfl (by decide) ?_
        refine lw_nil ?_
        refine pw_then ?_
        refine cw_cond rfl (fun _ => ?_) (fun h => ?_)
        · skip
          refine cw_seq ?_
          refine cw_region ?_
          refine lw_const (by decide) ?_
          refine lw_nil ?_
          refine pw_then ?_
          refine cw_ret ?_
          refine pw_then_ret ?_
          refine pw_block_ret ?_
          refine pw_then_ret ?_
          refine pw_pass_ret hp2 ?_
          refine pw_block_ret ?_
          refine pw_then_ret ?_
          exact pw_result rfl rfl ⟨cntF _ _, rfl⟩
        have hN18 := of_decide_eq_false h; clear h
        refine cw_sub (sub_cons (t := 0) rfl (sub_cons (t := 1) rfl (sub_cons (t := 2) rfl (sub_cons (t := 3) rfl (sub_cons (t := 4) rfl (sub_cons (t := 11) rfl (sub_cons (t := 13) rfl (sub_nil _)))))))) ?_
        refine cw_skip ?_
        refine pw_then ?_
        refine cw_seq ?_
        refine cw_region ?_
        refine lw_const (by decide) ?_
        refine lw_nil ?_
        refine pw_then ?_
        refine cw_block ?_
        refine cw_loop (z := 11) (i := 15) (n := cn2) (fun q k => ((thrSum T k2 + ofSum C2 k : Nat) : Int) ≤ q ∧ q ≤ 1048576) (by decide) rfl rfl (sub_cons (t := 0) rfl (sub_cons (t := 1) rfl (sub_cons (t := 2) rfl (sub_cons (t := 3) rfl (sub_cons (t := 4) rfl (sub_cons (t := 13) rfl (sub_nil _))))))) ⟨by simp only [ofSum]; omega, by omega⟩ ?_
        intro q4 k4 hk4 hr4 K4 hp4 he4
        obtain ⟨hl4, hu4⟩ := hr4
        by_cases hlt4 : k4 < cn2
        · obtain ⟨b4, o4, hao4, _, hat4⟩ := d42 (by omega)
          have hc4 := hat4 k4 hlt4
          have hO4 : ofSum C2 (k4 + 1) = ofSum C2 k4 + (C2 k4).on := rfl
          generalize C2 k4 = d4 at hc4 hO4
          obtain ⟨am4, sh4, oa4, on4, oc4, O4, bd4⟩ := d4
          obtain ⟨x04, x14, x24, x34, y04, y14, y24, y34⟩ := hc4
          simp only at x04 x14 x24 x34 y04 y14 y24 y34 hO4
          obtain ⟨z14, z24, -, z44, z54⟩ := y24
          subst hao4
          clear hat4 d42
          refine cw_seq ?_
          refine cw_seq ?_
          refine cw_region ?_
          refine lw_move rfl (by decide) ?_
          refine lw_move rfl (by decide) ?_
          refine lw_move rfl (by decide) ?_
          refine i32 rfl rfl (by assumption) (by decide) ?_
          refine f54_1 rfl (by decide) ?_
          refine lw_load rfl ag52 (by assumption) (by decide) ?_
          refine lw_lenSlice rfl Try.underlying52 (by decide) ?_
          refine lw_lss rfl rfl (by decide) ?_
          refine lw_nil ?_
          refine pw_then ?_
          refine cw_cond rfl (fun _ => ?_) (fun h => by have := of_decide_eq_false h; omega)
          refine cw_sub (sub_cons (t := 0) rfl (sub_cons (t := 1) rfl (sub_cons (t := 2) rfl (sub_cons (t := 3) rfl (sub_cons (t := 4) rfl (sub_cons (t := 13) rfl (sub_cons (t := 11) rfl (sub_cons (t := 15) rfl (sub_nil _))))))))) ?_
          refine cw_skip ?_
          refine pw_then ?_
          refine cw_seq ?_
          refine cw_block ?_
          refine cw_seq ?_
          refine cw_seq ?_
          refine cw_region ?_
          refine lw_move rfl (by decide) ?_
          refine lw_move rfl (by decide) ?_
          refine i32 rfl rfl (by assumption) (by decide) ?_
          refine f54_1 rfl (by decide) ?_
          refine lw_load rfl ag52 (by assumption) (by decide) ?_
          refine lw_move rfl (by decide) ?_
          refine i52 rfl rfl (by assumption) (by decide) ?_
          refine f56_0 rfl (by decide) ?_
          refine lw_load rfl ag9 (by assumption) (by decide) ?_
          refine lw_lenString rfl Try.underlying9 (by decide) ?_
          refine lw_gtr rfl (by decide) ?_
          refine lw_nil ?_
          refine pw_then ?_
          refine cw_cond rfl (fun _ => ?_) (fun h => ?_)
          · skip
            refine cw_seq ?_
            refine cw_region ?_
            refine lw_const (by decide) ?_
            refine lw_nil ?_
            refine pw_then ?_
            refine cw_ret ?_
            refine pw_then_ret ?_
            refine pw_block_ret ?_
            refine pw_then_ret ?_
            refine pw_pass_ret hp4 ?_
            refine pw_block_ret ?_
            refine pw_block_ret ?_
            refine pw_then_ret ?_
            refine pw_pass_ret hp2 ?_
            refine pw_block_ret ?_
            refine pw_then_ret ?_
            exact pw_result rfl rfl ⟨cntF _ _, rfl⟩
          have hN19 := of_decide_eq_false h; clear h
          refine cw_sub (sub_cons (t := 0) rfl (sub_cons (t := 1) rfl (sub_cons (t := 2) rfl (sub_cons (t := 3) rfl (sub_cons (t := 4) rfl (sub_cons (t := 13) rfl (sub_cons (t := 11) rfl (sub_cons (t := 15) rfl (sub_nil _))))))))) ?_
          refine cw_skip ?_
          refine pw_then ?_
          refine cw_seq ?_
          refine cw_region ?_
          refine lw_move rfl (by decide) ?_
          refine lw_move rfl (by decide) ?_
          refine lw_move rfl (by decide) ?_
          refine i32 rfl rfl (by assumption) (by decide) ?_
          refine f54_1 rfl (by decide) ?_
          refine lw_load rfl ag52 (by assumption) (by decide) ?_
          refine lw_move rfl (by decide) ?_
          refine i52 rfl rfl (by assumption) (by decide) ?_
          refine f56_0 rfl (by decide) ?_
          refine lw_load rfl ag9 (by assumption) (by decide) ?_
          refine lw_lenString rfl Try.underlying9 (by decide) ?_
          refine lw_addn rfl rfl (by omega) (by omega) (by decide) ?_
          refine lw_assign rfl (by decide) ?_
          refine lw_nil ?_
          refine pw_then ?_
          refine cw_seq ?_
          refine cw_seq ?_
          refine cw_region ?_
          refine lw_move rfl (by decide) ?_
          refine lw_gtr rfl (by decide) ?_
          refine lw_nil ?_
          refine pw_then ?_
          refine cw_cond rfl (fun _ => ?_) (fun h => ?_)
          · skip
            refine cw_seq ?_
            refine cw_region ?_
            refine lw_const (by decide) ?_
            refine lw_nil ?_
            refine pw_then ?_
            refine cw_ret ?_
            refine pw_then_ret ?_
            refine pw_block_ret ?_
            refine pw_then_ret ?_
            refine pw_pass_ret hp4 ?_
            refine pw_block_ret ?_
            refine pw_block_ret ?_
            refine pw_then_ret ?_
            refine pw_pass_ret hp2 ?_
            refine pw_block_ret ?_
            refine pw_then_ret ?_
            exact pw_result rfl rfl ⟨cntF _ _, rfl⟩
          have hN20 := of_decide_eq_false h; clear h
          refine cw_sub (sub_cons (t := 0) rfl (sub_cons (t := 1) rfl (sub_cons (t := 2) rfl (sub_cons (t := 3) rfl (sub_cons (t := 4) rfl (sub_cons (t := 13) rfl (sub_cons (t := 11) rfl (sub_cons (t := 15) rfl (sub_nil _))))))))) ?_
          refine cw_skip ?_
          refine pw_then ?_
          refine cw_seq ?_
          refine cw_seq ?_
          refine cw_region ?_
          refine lw_move rfl (by decide) ?_
          refine lw_move rfl (by decide) ?_
          refine i32 rfl rfl (by assumption) (by decide) ?_
          refine f54_1 rfl (by decide) ?_
          refine lw_load rfl ag52 (by assumption) (by decide) ?_
          refine lw_move rfl (by decide) ?_
          refine i52 rfl rfl (by assumption) (by decide) ?_
          refine f56_1 rfl (by decide) ?_
          refine lw_load rfl ag9 (by assumption) (by decide) ?_
          refine lw_lenString rfl Try.underlying9 (by decide) ?_
          refine lw_gtr rfl (by decide) ?_
          refine lw_nil ?_
          refine pw_then ?_
          refine cw_cond rfl (fun _ => ?_) (fun h => ?_)
          · skip
            refine cw_seq ?_
            refine cw_region ?_
            refine lw_const (by decide) ?_
            refine lw_nil ?_
            refine pw_then ?_
            refine cw_ret ?_
            refine pw_then_ret ?_
            refine pw_block_ret ?_
            refine pw_then_ret ?_
            refine pw_pass_ret hp4 ?_
            refine pw_block_ret ?_
            refine pw_block_ret ?_
            refine pw_then_ret ?_
            refine pw_pass_ret hp2 ?_
            refine pw_block_ret ?_
            refine pw_then_ret ?_
            exact pw_result rfl rfl ⟨cntF _ _, rfl⟩
          have hN21 := of_decide_eq_false h; clear h
          refine cw_sub (sub_cons (t := 0) rfl (sub_cons (t := 1) rfl (sub_cons (t := 2) rfl (sub_cons (t := 3) rfl (sub_cons (t := 4) rfl (sub_cons (t := 13) rfl (sub_cons (t := 11) rfl (sub_cons (t := 15) rfl (sub_nil _))))))))) ?_
          refine cw_skip ?_
          refine pw_then ?_
          refine cw_seq ?_
          refine cw_region ?_
          refine lw_move rfl (by decide) ?_
          refine lw_move rfl (by decide) ?_
          refine lw_move rfl (by decide) ?_
          refine i32 rfl rfl (by assumption) (by decide) ?_
          refine f54_1 rfl (by decide) ?_
          refine lw_load rfl ag52 (by assumption) (by decide) ?_
          refine lw_move rfl (by decide) ?_
          refine i52 rfl rfl (by assumption) (by decide) ?_
          refine f56_1 rfl (by decide) ?_
          refine lw_load rfl ag9 (by assumption) (by decide) ?_
          refine lw_lenString rfl Try.underlying9 (by decide) ?_
          refine lw_addn rfl rfl (by omega) (by omega) (by decide) ?_
          refine lw_assign rfl (by decide) ?_
          refine lw_nil ?_
          refine pw_then ?_
          refine cw_seq ?_
          refine cw_seq ?_
          refine cw_region ?_
          refine lw_move rfl (by decide) ?_
          refine lw_gtr rfl (by decide) ?_
          refine lw_nil ?_
          refine pw_then ?_
          refine cw_cond rfl (fun _ => ?_) (fun h => ?_)
          · skip
            refine cw_seq ?_
            refine cw_region ?_
            refine lw_const (by decide) ?_
            refine lw_nil ?_
            refine pw_then ?_
            refine cw_ret ?_
            refine pw_then_ret ?_
            refine pw_block_ret ?_
            refine pw_then_ret ?_
            refine pw_pass_ret hp4 ?_
            refine pw_block_ret ?_
            refine pw_block_ret ?_
            refine pw_then_ret ?_
            refine pw_pass_ret hp2 ?_
            refine pw_block_ret ?_
            refine pw_then_ret ?_
            exact pw_result rfl rfl ⟨cntF _ _, rfl⟩
          have hN22 := of_decide_eq_false h; clear h
          refine cw_sub (sub_cons (t := 0) rfl (sub_cons (t := 1) rfl (sub_cons (t := 2) rfl (sub_cons (t := 3) rfl (sub_cons (t := 4) rfl (sub_cons (t := 13) rfl (sub_cons (t := 11) rfl (sub_cons (t := 15) rfl (sub_nil _))))))))) ?_
          refine cw_skip ?_
          refine pw_then ?_
          refine cw_seq ?_
          refine cw_seq ?_
          refine cw_region ?_
          refine lw_move rfl (by decide) ?_
          refine lw_move rfl (by decide) ?_
          refine i32 rfl rfl (by assumption) (by decide) ?_
          refine f54_1 rfl (by decide) ?_
          refine lw_load rfl ag52 (by assumption) (by decide) ?_
          refine lw_move rfl (by decide) ?_
          refine i52 rfl rfl (by assumption) (by decide) ?_
          refine f56_2 rfl (by decide) ?_
          refine lw_load rfl ag51 (by assumption) (by decide) ?_
          refine lw_lenSlice rfl Try.underlying51 (by decide) ?_
          refine lw_gtr rfl (by decide) ?_
          refine lw_nil ?_
          refine pw_then ?_
          refine cw_cond rfl (fun _ => ?_) (fun h => ?_)
          · skip
            refine cw_seq ?_
            refine cw_region ?_
            refine lw_const (by decide) ?_
            refine lw_nil ?_
            refine pw_then ?_
            refine cw_ret ?_
            refine pw_then_ret ?_
            refine pw_block_ret ?_
            refine pw_then_ret ?_
            refine pw_pass_ret hp4 ?_
            refine pw_block_ret ?_
            refine pw_block_ret ?_
            refine pw_then_ret ?_
            refine pw_pass_ret hp2 ?_
            refine pw_block_ret ?_
            refine pw_then_ret ?_
            exact pw_result rfl rfl ⟨cntF _ _, rfl⟩
          have hN23 := of_decide_eq_false h; clear h
          refine cw_sub (sub_cons (t := 0) rfl (sub_cons (t := 1) rfl (sub_cons (t := 2) rfl (sub_cons (t := 3) rfl (sub_cons (t := 4) rfl (sub_cons (t := 13) rfl (sub_cons (t := 11) rfl (sub_cons (t := 15) rfl (sub_nil _))))))))) ?_
          refine cw_skip ?_
          refine pw_then ?_
          refine cw_seq ?_
          refine cw_region ?_
          refine lw_move rfl (by decide) ?_
          refine lw_move rfl (by decide) ?_
          refine lw_move rfl (by decide) ?_
          refine i32 rfl rfl (by assumption) (by decide) ?_
          refine f54_1 rfl (by decide) ?_
          refine lw_load rfl ag52 (by assumption) (by decide) ?_
          refine lw_move rfl (by decide) ?_
          refine i52 rfl rfl (by assumption) (by decide) ?_
          refine f56_2 rfl (by decide) ?_
          refine lw_load rfl ag51 (by assumption) (by decide) ?_
          refine lw_lenSlice rfl Try.underlying51 (by decide) ?_
          refine lw_addn rfl rfl (by omega) (by omega) (by decide) ?_
          refine lw_assign rfl (by decide) ?_
          refine lw_nil ?_
          refine pw_then ?_
          refine cw_seq ?_
          refine cw_seq ?_
          refine cw_region ?_
          refine lw_move rfl (by decide) ?_
          refine lw_gtr rfl (by decide) ?_
          refine lw_nil ?_
          refine pw_then ?_
          refine cw_cond rfl (fun _ => ?_) (fun h => ?_)
          · skip
            refine cw_seq ?_
            refine cw_region ?_
            refine lw_const (by decide) ?_
            refine lw_nil ?_
            refine pw_then ?_
            refine cw_ret ?_
            refine pw_then_ret ?_
            refine pw_block_ret ?_
            refine pw_then_ret ?_
            refine pw_pass_ret hp4 ?_
            refine pw_block_ret ?_
            refine pw_block_ret ?_
            refine pw_then_ret ?_
            refine pw_pass_ret hp2 ?_
            refine pw_block_ret ?_
            refine pw_then_ret ?_
            exact pw_result rfl rfl ⟨cntF _ _, rfl⟩
          have hN24 := of_decide_eq_false h; clear h
          refine cw_sub (sub_cons (t := 0) rfl (sub_cons (t := 1) rfl (sub_cons (t := 2) rfl (sub_cons (t := 3) rfl (sub_cons (t := 4) rfl (sub_cons (t := 13) rfl (sub_cons (t := 11) rfl (sub_cons (t := 15) rfl (sub_nil _))))))))) ?_
          refine cw_skip ?_
          refine pw_then ?_
          refine cw_seq ?_
          refine cw_seq ?_
          refine cw_region ?_
          refine lw_const (by decide) ?_
          refine lw_nil ?_
          refine pw_then ?_
          refine cw_block ?_
          refine cw_loop (z := 11) (i := 16) (n := on4) (fun q k => ((thrSum T k2 + ofSum C2 (k4 + 1) : Nat) : Int) ≤ q ∧ q ≤ 1048576) (by decide) rfl rfl (sub_cons (t := 0) rfl (sub_cons (t := 1) rfl (sub_cons (t := 2) rfl (sub_cons (t := 3) rfl (sub_cons (t := 4) rfl (sub_cons (t := 13) rfl (sub_cons (t := 15) rfl (sub_nil _)))))))) ⟨by omega, by omega⟩ ?_
          intro q5 k5 hk5 hr5 K5 hp5 he5
          obtain ⟨hl5, hu5⟩ := hr5
          by_cases hlt5 : k5 < on4
          · obtain ⟨b5, o5, hao5, _, hat5⟩ := z44 (by omega)
            have hc5 := hat5 k5 hlt5
            have hs5 := z54 k5 hlt5
            subst hao5
            clear hat5 z44 z54
            refine cw_seq ?_
            refine cw_seq ?_
            refine cw_region ?_
            refine lw_move rfl (by decide) ?_
            refine lw_move rfl (by decide) ?_
            refine lw_move rfl (by decide) ?_
            refine i32 rfl rfl (by assumption) (by decide) ?_
            refine f54_1 rfl (by decide) ?_
            refine lw_load rfl ag52 (by assumption) (by decide) ?_
            refine lw_move rfl (by decide) ?_
            refine i52 rfl rfl (by assumption) (by decide) ?_
            refine f56_2 rfl (by decide) ?_
            refine lw_load rfl ag51 (by assumption) (by decide) ?_
            refine lw_lenSlice rfl Try.underlying51 (by decide) ?_
            refine lw_lss rfl rfl (by decide) ?_
            refine lw_nil ?_
            refine pw_then ?_
            refine cw_cond rfl (fun _ => ?_) (fun h => by have := of_decide_eq_false h; omega)
            refine cw_sub (sub_cons (t := 0) rfl (sub_cons (t := 1) rfl (sub_cons (t := 2) rfl (sub_cons (t := 3) rfl (sub_cons (t := 4) rfl (sub_cons (t := 13) rfl (sub_cons (t := 15) rfl (sub_cons (t := 11) rfl (sub_cons (t := 16) rfl (sub_nil _)))))))))) ?_
            refine cw_skip ?_
            refine pw_then ?_
            refine cw_seq ?_
            refine cw_block ?_
            refine cw_seq ?_
            refine cw_seq ?_
            refine cw_region ?_
            refine lw_move rfl (by decide) ?_
            refine lw_move rfl (by decide) ?_
            refine i32 rfl rfl (by assumption) (by decide) ?_
            refine f54_1 rfl (by decide) ?_
            refine lw_load rfl ag52 (by assumption) (by decide) ?_
            refine lw_move rfl (by decide) ?_
            refine i52 rfl rfl (by assumption) (by decide) ?_
            refine f56_2 rfl (by decide) ?_
            refine lw_load rfl ag51 (by assumption) (by decide) ?_
            refine lw_move rfl (by decide) ?_
            refine i51 rfl rfl (by assumption) (by decide) ?_
            refine lw_load rfl ag9 (by assumption) (by decide) ?_
            refine lw_lenString rfl Try.underlying9 (by decide) ?_
            refine lw_gtr rfl (by decide) ?_
            refine lw_nil ?_
            refine pw_then ?_
            refine cw_cond rfl (fun _ => ?_) (fun h => ?_)
            · skip
              refine cw_seq ?_
              refine cw_region ?_
              refine lw_const (by decide) ?_
              refine lw_nil ?_
              refine pw_then ?_
              refine cw_ret ?_
              refine pw_then_ret ?_
              refine pw_block_ret ?_
              refine pw_then_ret ?_
              refine pw_pass_ret hp5 ?_
              refine pw_block_ret ?_
              refine pw_then_ret ?_
              refine pw_block_ret ?_
              refine pw_then_ret ?_
              refine pw_pass_ret hp4 ?_
              refine pw_block_ret ?_
              refine pw_block_ret ?_
              refine pw_then_ret ?_
              refine pw_pass_ret hp2 ?_
              refine pw_block_ret ?_
              refine pw_then_ret ?_
              exact pw_result rfl rfl ⟨cntF _ _, rfl⟩
            have hN25 := of_decide_eq_false h; clear h
            refine cw_sub (sub_cons (t := 0) rfl (sub_cons (t := 1) rfl (sub_cons (t := 2) rfl (sub_cons (t := 3) rfl (sub_cons (t := 4) rfl (sub_cons (t := 13) rfl (sub_cons (t := 15) rfl (sub_cons (t := 11) rfl (sub_cons (t := 16) rfl (sub_nil _)))))))))) ?_
            refine cw_skip ?_
            refine pw_then ?_
            refine cw_seq ?_
            refine cw_region ?_
            refine lw_move rfl (by decide) ?_
            refine lw_move rfl (by decide) ?_
            refine lw_move rfl (by decide) ?_
            refine i32 rfl rfl (by assumption) (by decide) ?_
            refine f54_1 rfl (by decide) ?_
            refine lw_load rfl ag52 (by assumption) (by decide) ?_
            refine lw_move rfl (by decide) ?_
            refine i52 rfl rfl (by assumption) (by decide) ?_
            refine f56_2 rfl (by decide) ?_
            refine lw_load rfl ag51 (by assumption) (by decide) ?_
            refine lw_move rfl (by decide) ?_
            refine i51 rfl rfl (by assumption) (by decide) ?_
            refine lw_load rfl ag9 (by assumption) (by decide) ?_
            refine lw_lenString rfl Try.underlying9 (by decide) ?_
            refine lw_addn rfl rfl (by omega) (by omega) (by decide) ?_
            refine lw_assign rfl (by decide) ?_
            refine lw_nil ?_
            refine pw_then ?_
            refine cw_seq ?_
            refine cw_region ?_
            refine lw_move rfl (by decide) ?_
            refine lw_gtr rfl (by decide) ?_
            refine lw_nil ?_
            refine pw_then ?_
            refine cw_cond rfl (fun _ => ?_) (fun h => ?_)
            · skip
              refine cw_seq ?_
              refine cw_region ?_
              refine lw_const (by decide) ?_
              refine lw_nil ?_
              refine pw_then ?_
              refine cw_ret ?_
              refine pw_block_ret ?_
              refine pw_then_ret ?_
              refine pw_pass_ret hp5 ?_
              refine pw_block_ret ?_
              refine pw_then_ret ?_
              refine pw_block_ret ?_
              refine pw_then_ret ?_
              refine pw_pass_ret hp4 ?_
              refine pw_block_ret ?_
              refine pw_block_ret ?_
              refine pw_then_ret ?_
              refine pw_pass_ret hp2 ?_
              refine pw_block_ret ?_
              refine pw_then_ret ?_
              exact pw_result rfl rfl ⟨cntF _ _, rfl⟩
            have hN26 := of_decide_eq_false h; clear h
            refine cw_sub (sub_cons (t := 0) rfl (sub_cons (t := 1) rfl (sub_cons (t := 2) rfl (sub_cons (t := 3) rfl (sub_cons (t := 4) rfl (sub_cons (t := 13) rfl (sub_cons (t := 15) rfl (sub_cons (t := 11) rfl (sub_cons (t := 16) rfl (sub_nil _)))))))))) ?_
            refine cw_skip ?_
            refine pw_block_normal ?_
            refine pw_then ?_
            refine cw_region ?_
            refine lw_move rfl (by decide) ?_
            refine lw_inc rfl (by omega) (by decide) ?_
            refine lw_assign rfl (by decide) ?_
            refine lw_nil ?_
            exact he5 _ _ ⟨by omega, by omega⟩ (by omega) rfl rfl (sub_cons (t := 0) rfl (sub_cons (t := 1) rfl (sub_cons (t := 2) rfl (sub_cons (t := 3) rfl (sub_cons (t := 4) rfl (sub_cons (t := 13) rfl (sub_cons (t := 15) rfl (sub_nil _))))))))
          · clear z44 z54
            refine cw_seq ?_
            refine cw_seq ?_
            refine cw_region ?_
            refine lw_move rfl (by decide) ?_
            refine lw_move rfl (by decide) ?_
            refine lw_move rfl (by decide) ?_
            refine i32 rfl rfl (by assumption) (by decide) ?_
            refine f54_1 rfl (by decide) ?_
            refine lw_load rfl ag52 (by assumption) (by decide) ?_
            refine lw_move rfl (by decide) ?_
            refine i52 rfl rfl (by assumption) (by decide) ?_
            refine f56_2 rfl (by decide) ?_
            refine lw_load rfl ag51 (by assumption) (by decide) ?_
            refine lw_lenSlice rfl Try.underlying51 (by decide) ?_
            refine lw_lss rfl rfl (by decide) ?_
            refine lw_nil ?_
            refine pw_then ?_
            refine cw_cond rfl (fun h => by have := of_decide_eq_true h; omega) (fun _ => ?_)
            refine cw_sub (sub_cons (t := 0) rfl (sub_cons (t := 1) rfl (sub_cons (t := 2) rfl (sub_cons (t := 3) rfl (sub_cons (t := 4) rfl (sub_cons (t := 13) rfl (sub_cons (t := 15) rfl (sub_cons (t := 11) rfl (sub_cons (t := 16) rfl (sub_nil _)))))))))) ?_
            refine cw_exit ?_
            refine pw_then_exit ?_
            refine pw_pass_exit hp5 ?_
            refine pw_block_exit ?_
            refine pw_then ?_
            refine cw_seq ?_
            refine cw_seq ?_
            refine cw_region ?_
            refine lw_move rfl (by decide) ?_
            refine lw_move rfl (by decide) ?_
            refine i32 rfl rfl (by assumption) (by decide) ?_
            refine f54_1 rfl (by decide) ?_
            refine lw_load rfl ag52 (by assumption) (by decide) ?_
            refine lw_move rfl (by decide) ?_
            refine i52 rfl rfl (by assumption) (by decide) ?_
            refine f56_3 rfl (by decide) ?_
            refine lw_load rfl ag9 (by assumption) (by decide) ?_
            refine lw_lenString rfl Try.underlying9 (by decide) ?_
            refine lw_gtr rfl (by decide) ?_
            refine lw_nil ?_
            refine pw_then ?_
            refine cw_cond rfl (fun _ => ?_) (fun h => ?_)
            · skip
              refine cw_seq ?_
              refine cw_region ?_
              refine lw_const (by decide) ?_
              refine lw_nil ?_
              refine pw_then ?_
              refine cw_ret ?_
              refine pw_then_ret ?_
              refine pw_block_ret ?_
              refine pw_then_ret ?_
              refine pw_pass_ret hp4 ?_
              refine pw_block_ret ?_
              refine pw_block_ret ?_
              refine pw_then_ret ?_
              refine pw_pass_ret hp2 ?_
              refine pw_block_ret ?_
              refine pw_then_ret ?_
              exact pw_result rfl rfl ⟨cntF _ _, rfl⟩
            have hN27 := of_decide_eq_false h; clear h
            refine cw_sub (sub_cons (t := 0) rfl (sub_cons (t := 1) rfl (sub_cons (t := 2) rfl (sub_cons (t := 3) rfl (sub_cons (t := 4) rfl (sub_cons (t := 13) rfl (sub_cons (t := 11) rfl (sub_cons (t := 15) rfl (sub_nil _))))))))) ?_
            refine cw_skip ?_
            refine pw_then ?_
            refine cw_seq ?_
            refine cw_region ?_
            refine lw_move rfl (by decide) ?_
            refine lw_move rfl (by decide) ?_
            refine lw_move rfl (by decide) ?_
            refine i32 rfl rfl (by assumption) (by decide) ?_
            refine f54_1 rfl (by decide) ?_
            refine lw_load rfl ag52 (by assumption) (by decide) ?_
            refine lw_move rfl (by decide) ?_
            refine i52 rfl rfl (by assumption) (by decide) ?_
            refine f56_3 rfl (by decide) ?_
            refine lw_load rfl ag9 (by assumption) (by decide) ?_
            refine lw_lenString rfl Try.underlying9 (by decide) ?_
            refine lw_addn rfl rfl (by omega) (by omega) (by decide) ?_
            refine lw_assign rfl (by decide) ?_
            refine lw_nil ?_
            refine pw_then ?_
            refine cw_seq ?_
            refine cw_region ?_
            refine lw_move rfl (by decide) ?_
            refine lw_gtr rfl (by decide) ?_
            refine lw_nil ?_
            refine pw_then ?_
            refine cw_cond rfl (fun _ => ?_) (fun h => ?_)
            · skip
              refine cw_seq ?_
              refine cw_region ?_
              refine lw_const (by decide) ?_
              refine lw_nil ?_
              refine pw_then ?_
              refine cw_ret ?_
              refine pw_block_ret ?_
              refine pw_then_ret ?_
              refine pw_pass_ret hp4 ?_
              refine pw_block_ret ?_
              refine pw_block_ret ?_
              refine pw_then_ret ?_
              refine pw_pass_ret hp2 ?_
              refine pw_block_ret ?_
              refine pw_then_ret ?_
              exact pw_result rfl rfl ⟨cntF _ _, rfl⟩
            have hN28 := of_decide_eq_false h; clear h
            refine cw_sub (sub_cons (t := 0) rfl (sub_cons (t := 1) rfl (sub_cons (t := 2) rfl (sub_cons (t := 3) rfl (sub_cons (t := 4) rfl (sub_cons (t := 13) rfl (sub_cons (t := 11) rfl (sub_cons (t := 15) rfl (sub_nil _))))))))) ?_
            refine cw_skip ?_
            refine pw_block_normal ?_
            refine pw_then ?_
            refine cw_region ?_
            refine lw_move rfl (by decide) ?_
            refine lw_inc rfl (by omega) (by decide) ?_
            refine lw_assign rfl (by decide) ?_
            refine lw_nil ?_
            exact he4 _ _ ⟨by omega, by omega⟩ (by omega) rfl rfl (sub_cons (t := 0) rfl (sub_cons (t := 1) rfl (sub_cons (t := 2) rfl (sub_cons (t := 3) rfl (sub_cons (t := 4) rfl (sub_cons (t := 13) rfl (sub_nil _)))))))
        · clear d42
          obtain rfl : cn2 = k4 := by omega
          refine cw_seq ?_
          refine cw_seq ?_
          refine cw_region ?_
          refine lw_move rfl (by decide) ?_
          refine lw_move rfl (by decide) ?_
          refine lw_move rfl (by decide) ?_
          refine i32 rfl rfl (by assumption) (by decide) ?_
          refine f54_1 rfl (by decide) ?_
          refine lw_load rfl ag52 (by assumption) (by decide) ?_
          refine lw_lenSlice rfl Try.underlying52 (by decide) ?_
          refine lw_lss rfl rfl (by decide) ?_
          refine lw_nil ?_
          refine pw_then ?_
          refine cw_cond rfl (fun h => by have := of_decide_eq_true h; omega) (fun _ => ?_)
          refine cw_sub (sub_cons (t := 0) rfl (sub_cons (t := 1) rfl (sub_cons (t := 2) rfl (sub_cons (t := 3) rfl (sub_cons (t := 4) rfl (sub_cons (t := 13) rfl (sub_cons (t := 11) rfl (sub_cons (t := 15) rfl (sub_nil _))))))))) ?_
          refine cw_exit ?_
          refine pw_then_exit ?_
          refine pw_pass_exit hp4 ?_
          refine pw_block_exit ?_
          refine pw_block_normal ?_
          refine pw_then ?_
          refine cw_region ?_
          refine lw_move rfl (by decide) ?_
          refine lw_inc rfl (by omega) (by decide) ?_
          refine lw_assign rfl (by decide) ?_
          refine lw_nil ?_
          exact he2 _ _ ⟨by omega, by omega⟩ (by omega) rfl rfl (sub_cons (t := 0) rfl (sub_cons (t := 1) rfl (sub_cons (t := 2) rfl (sub_cons (t := 3) rfl (sub_cons (t := 4) rfl (sub_nil _))))))
    · clear ga
      obtain rfl : tn = k2 := by omega
      refine cw_seq ?_
      refine cw_seq ?_
      refine cw_region ?_
      refine lw_move rfl (by decide) ?_
      refine lw_move rfl (by decide) ?_
      refine lw_lenSlice rfl Try.underlying32 (by decide) ?_
      refine lw_lss rfl rfl (by decide) ?_
      refine lw_nil ?_
      refine pw_then ?_
      refine cw_cond rfl (fun h => by have := of_decide_eq_true h; omega) (fun _ => ?_)
      refine cw_sub (sub_cons (t := 0) rfl (sub_cons (t := 1) rfl (sub_cons (t := 2) rfl (sub_cons (t := 3) rfl (sub_cons (t := 4) rfl (sub_cons (t := 11) rfl (sub_cons (t := 13) rfl (sub_nil _)))))))) ?_
      refine cw_exit ?_
      refine pw_then_exit ?_
      refine pw_pass_exit hp2 ?_
      refine pw_block_exit ?_
      refine pw_then ?_
      refine cw_seq ?_
      refine cw_seq ?_
      refine cw_region ?_
      refine lw_move rfl (by decide) ?_
      refine lw_lenString rfl Try.underlying9 (by decide) ?_
      refine lw_gtr rfl (by decide) ?_
      refine lw_nil ?_
      refine pw_then ?_
      refine cw_cond rfl (fun _ => ?_) (fun h => ?_)
      · skip
        refine cw_seq ?_
        refine cw_region ?_
        refine lw_const (by decide) ?_
        refine lw_nil ?_
        refine pw_then ?_
        refine cw_ret ?_
        refine pw_then_ret ?_
        exact pw_result rfl rfl ⟨cntF _ _, rfl⟩
      have hN29 := of_decide_eq_false h; clear h
      refine cw_sub (sub_cons (t := 0) rfl (sub_cons (t := 1) rfl (sub_cons (t := 2) rfl (sub_cons (t := 3) rfl (sub_cons (t := 4) rfl (sub_cons (t := 11) rfl (sub_nil _))))))) ?_
      refine cw_skip ?_
      refine pw_then ?_
      refine cw_seq ?_
      refine cw_region ?_
      refine lw_move rfl (by decide) ?_
      refine lw_move rfl (by decide) ?_
      refine lw_lenString rfl Try.underlying9 (by decide) ?_
      refine lw_addn rfl rfl (by omega) (by omega) (by decide) ?_
      refine lw_assign rfl (by decide) ?_
      refine lw_nil ?_
      refine pw_then ?_
      refine cw_seq ?_
      refine cw_seq ?_
      refine cw_region ?_
      refine lw_move rfl (by decide) ?_
      refine lw_gtr rfl (by decide) ?_
      refine lw_nil ?_
      refine pw_then ?_
      refine cw_cond rfl (fun _ => ?_) (fun h => ?_)
      · skip
        refine cw_seq ?_
        refine cw_region ?_
        refine lw_const (by decide) ?_
        refine lw_nil ?_
        refine pw_then ?_
        refine cw_ret ?_
        refine pw_then_ret ?_
        exact pw_result rfl rfl ⟨cntF _ _, rfl⟩
      have hN30 := of_decide_eq_false h; clear h
      refine cw_sub (sub_cons (t := 0) rfl (sub_cons (t := 1) rfl (sub_cons (t := 2) rfl (sub_cons (t := 3) rfl (sub_cons (t := 4) rfl (sub_cons (t := 11) rfl (sub_nil _))))))) ?_
      refine cw_skip ?_
      refine pw_then ?_
      refine cw_seq ?_
      refine cw_region ?_
      refine lw_const (by decide) ?_
      refine lw_nil ?_
      refine pw_then ?_
      refine cw_ret ?_
      exact pw_result rfl rfl ⟨cntT (by omega), rfl⟩
end Go.Proofs.Qxb6604078a
