import Derived.Test.Qxb6604078aB2
import Derived.Test.Qxb6604078aA2
namespace Go.Proofs.Qxb6604078a
open Go.RowKit

set_option maxHeartbeats 1000000 in
theorem sizeSteps_any (t : Int) (a : Option Addr) (n c : Nat) (S : Nat → TwoV) (w : World) (h : Twos w a n c S) :
    Calls Try.prog 33 #[.int .i64 t, .slice a n c] w fun e w' => RetI e ∧ w = w' := by
  have c1 := h.le
  have c2 := h.cap
  have ha := h.here
  clear h
  go_enter Try.func33, Try.ntmps33
  go_wp2_with (first | (go_at_call 27; refine (grow_any _ _ _ _).mono ?_; rintro e w' ⟨⟨r, rfl⟩, rfl⟩))
  go_loop [0, 5] (fun z i => ∃ (q : Int) (k : Nat), k ≤ n ∧ z = .int .i64 q ∧ i = .int .i64 k) (fun _ i => n - (intOf i).toNat)
  case atStart => exact ⟨_, 0, Nat.zero_le _, rfl, rfl⟩
  case round =>
    obtain ⟨q, k, hk, rfl, rfl⟩ := hrel
    by_cases hlt : k < n
    · obtain ⟨b, o, hao, hbl, hat⟩ := ha (by omega)
      have hck := hat k hlt
      subst hao
      clear hat ha
      generalize S k = d at hck
      obtain ⟨x, y⟩ := d
      obtain ⟨x0, x1, s0, s1⟩ := hck
      simp only at x0 x1 s0 s1
      go_wp2_with (first | (go_at_call 27; refine (grow_any _ _ _ _).mono ?_; rintro e w' ⟨⟨r, rfl⟩, rfl⟩))
      · go_ret
        exact ⟨retI _, rfl⟩
      · go_round
        case rel => exact ⟨_, k + 1, by omega, rfl, by go_num⟩
        case measure => simp [intOf]; omega
    · go_wp2
      go_ret
      exact ⟨retI _, rfl⟩

set_option maxHeartbeats 1000000 in
theorem sizeRoute_any (t : Int) (bo ti : ByteArray) (sa : Option Addr) (sn sc : Nat) (S : Nat → TwoV) (ta : Option Addr) (tn tc : Nat) (T : Nat → ThrV) (w : World) (hS : Twos w sa sn sc S) (hT : Thrs w ta tn tc T) :
    Calls Try.prog 32 #[.int .i64 t, .agg #[.string bo, .string ti, .slice sa sn sc, .slice ta tn tc]] w fun e w' => RetI e ∧ Below w.heap.size w w' := by
  go_enter Try.func32, Try.ntmps32
  go_wp2_with (first | (go_at_call 27; refine (grow_any _ _ _ _).mono ?_; rintro e w' ⟨⟨r, rfl⟩, rfl⟩) | (go_at_call 33; refine (sizeSteps_any _ _ _ _ S _ (hS.later ((Below.refl _ _).alloc (Nat.le_refl _) _))).mono ?_; rintro e w' ⟨⟨r, rfl⟩, rfl⟩))
  refine (sizeThresholds_any _ _ _ _ T _ (hT.later ((Below.refl _ _).alloc (Nat.le_refl _) _))).mono ?_
  rintro e w1 ⟨⟨r, rfl⟩, hb⟩
  go_wp2
  go_ret
  have h0 : Below w.heap.size w (w.alloc (.cells #[.string bo, .string ti, .slice sa sn sc, .slice ta tn tc] 34)) := (Below.refl _ _).alloc (Nat.le_refl _) _
  exact ⟨retI _, h0.trans (hb.mono h0.size)⟩

set_option maxHeartbeats 1000000 in
theorem sizeRoutes_any (t : Int) (a : Option Addr) (n c : Nat) (R : Nat → RouteV) (w : World) (h : Rts w a n c R) :
    Calls Try.prog 13 #[.int .i64 t, .slice a n c] w fun e w' => RetI e ∧ Below w.heap.size w w' := by
  have c1 := h.le
  have c2 := h.cap
  have ha := h.here
  clear h
  go_enter Try.func13, Try.ntmps13
  go_wp2_with (first | (go_at_call 27; refine (grow_any _ _ _ _).mono ?_; rintro e w' ⟨⟨r, rfl⟩, rfl⟩))
  go_loopw [0, 5] (fun z i wr => ∃ (q : Int) (k : Nat), k ≤ n ∧ z = .int .i64 q ∧ i = .int .i64 k ∧ Below w.heap.size w wr) (fun _ i _ => n - (intOf i).toNat)
  case atStart => exact ⟨_, 0, Nat.zero_le _, rfl, rfl, Below.refl _ _⟩
  case round =>
    obtain ⟨q, k, hk, rfl, rfl, hb⟩ := hrel
    by_cases hlt : k < n
    · obtain ⟨b, o, hao, hbl, hat⟩ := ha (by omega)
      have hck := (hat k hlt).later hbl hb
      subst hao
      clear hat ha
      generalize R k = d at hck
      obtain ⟨bo, ti, sa, sn, sc, S, ta, tn, tc, T⟩ := d
      obtain ⟨x0, x1, x2, x3, s0, s1, s2, s3⟩ := hck
      simp only at x0 x1 x2 x3 s0 s1 s2 s3
      go_wp2_with (first | (go_at_call 32; refine (sizeRoute_any _ _ _ _ _ _ S _ _ _ T _ s2 s3).mono ?_; rintro e w' ⟨⟨r, rfl⟩, hb1⟩))
      · go_ret
        exact ⟨retI _, hb⟩
      · go_roundw
        case rel => exact ⟨_, k + 1, by omega, rfl, by go_num, hb.trans (hb1.mono hb.size)⟩
        case measure => simp [intOf]; omega
    · go_wp2
      go_ret
      exact ⟨retI _, hb⟩
end Go.Proofs.Qxb6604078a
