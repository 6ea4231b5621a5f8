import Derived.Test.Qxb6604078aB3
import Derived.Test.Qxb6604078aW5
namespace Go.Proofs.Qxb6604078a
open Go.RowKit

set_option maxHeartbeats 1000000 in
theorem sizeDeals_any (t : Int) (a : Option Addr) (n c : Nat) (S : Nat → TwoV) (w : World) (h : Twos w a n c S) :
    Calls Try.prog 28 #[.int .i64 t, .slice a n c] w fun e w' => RetI e ∧ w = w' := by
  have c1 := h.le
  have c2 := h.cap
  have ha := h.here
  clear h
  go_enter Try.func28, Try.ntmps28
  go_wp2_with (first | (go_at_call 27; refine (grow_any _ _ _ _).mono ?_; rintro e w' ⟨⟨r, rfl⟩, rfl⟩))
  go_loop [0, 5] (fun z i => ∃ (q : Int) (k : Nat), k ≤ n ∧ z = .int .i64 q ∧ i = .int .i64 k) (fun _ i => n - (intOf i).toNat)
  case atStart => exact ⟨_, 0, Nat.zero_le _, rfl, rfl⟩
  case round =>
    obtain ⟨q, k, hk, rfl, rfl⟩ := hrel
    by_cases hlt : k < n
    · obtain ⟨b, o, hao, hbl, hat⟩ := ha (by omega)
      have hck := hat k hlt
      subst hao
      clear hat ha
      generalize S k = d at hck
      obtain ⟨x, y⟩ := d
      obtain ⟨x0, x1, s0, s1⟩ := hck
      simp only at x0 x1 s0 s1
      go_wp2_with (first | (go_at_call 27; refine (grow_any _ _ _ _).mono ?_; rintro e w' ⟨⟨r, rfl⟩, rfl⟩))
      · go_ret
        exact ⟨retI _, rfl⟩
      · go_round
        case rel => exact ⟨_, k + 1, by omega, rfl, by go_num⟩
        case measure => simp [intOf]; omega
    · go_wp2
      go_ret
      exact ⟨retI _, rfl⟩

set_option maxHeartbeats 1000000 in
theorem sizeHead_any (t : Int) (p : Option Addr) (w : World) (h : HC w p) :
    Calls Try.prog 39 #[.int .i64 t, .pointer p] w fun e w' => RetI e ∧ w = w' := by
  rcases h with rfl | ⟨b, o, rfl, _, n, f, d, c0, c1, c2, s0, s1⟩
  · go_enter Try.func39, Try.ntmps39
    go_wp2
    go_ret
    exact ⟨retI _, rfl⟩
  · go_enter Try.func39, Try.ntmps39
    go_wp2_with (first | (go_at_call 27; refine (grow_any _ _ _ _).mono ?_; rintro e w' ⟨⟨r, rfl⟩, rfl⟩))
    go_ret
    exact ⟨retI _, rfl⟩

set_option maxHeartbeats 1000000 in
theorem sizeBoard_any (t : Int) (p : Option Addr) (w : World) (h : BV w p) :
    Calls Try.prog 29 #[.int .i64 t, .pointer p] w fun e w' => RetI e ∧ w = w' := by
  rcases h with rfl | ⟨b, o, rfl, _, pq, pa, pd, c0, c1, c2, h0, h1, h2⟩
  · go_enter Try.func29, Try.ntmps29
    go_wp2
    go_ret
    exact ⟨retI _, rfl⟩
  · go_enter Try.func29, Try.ntmps29
    go_wp2_with fail
    refine (sizeHead_any _ _ _ h0).mono ?_
    rintro e w' ⟨⟨r, rfl⟩, rfl⟩
    go_wp2_with fail
    refine (sizeHead_any _ _ _ h1).mono ?_
    rintro e w' ⟨⟨r1, rfl⟩, rfl⟩
    go_wp2_with fail
    refine (sizeHead_any _ _ _ h2).mono ?_
    rintro e w' ⟨⟨r2, rfl⟩, rfl⟩
    go_wp2_with fail
    go_ret
    exact ⟨retI _, rfl⟩

set_option maxHeartbeats 1000000 in
theorem sizeProfileArgs_any (nm ti bd : ByteArray) (da : Option Addr) (dn dc : Nat) (D : Nat → TwoV) (ra : Option Addr) (rn rc : Nat) (R : Nat → RouteV) (bv : Option Addr) (w : World) (hD : Twos w da dn dc D) (hR : Rts w ra rn rc R) (hbv : BV w bv) :
    Calls Try.prog 9 #[.string nm, .string ti, .slice da dn dc, .slice ra rn rc, .pointer bv, .string bd] w fun e w' => RetI e ∧ Below w.heap.size w w' := by
  go_enter Try.func9, Try.ntmps9
  go_wp2_with (first | (go_at_call 27; refine (grow_any _ _ _ _).mono ?_; rintro e w' ⟨⟨r, rfl⟩, rfl⟩) | (go_at_call 28; refine (sizeDeals_any _ _ _ _ D _ hD).mono ?_; rintro e w' ⟨⟨r, rfl⟩, rfl⟩))
  refine (sizeRoutes_any _ _ _ _ R _ hR).mono ?_
  rintro e w1 ⟨⟨r, rfl⟩, hb⟩
  go_wp2_with fail
  refine (sizeBoard_any _ _ _ (hbv.later hb)).mono ?_
  rintro e w' ⟨⟨r2, rfl⟩, rfl⟩
  go_wp2_with fail
  go_ret
  exact ⟨retI _, hb⟩
end Go.Proofs.Qxb6604078a
