import Derived.Test.Qxb6604078aA
namespace Go.Proofs.Qxb6604078a
open Go.RowKit

set_option maxHeartbeats 400000 in
theorem grow_any (t n k : Int) (w : World) :
    Calls Try.prog 27 #[.int .i64 t, .int .i64 n, .int .i64 k] w fun e w' => RetI e ∧ w = w' := by
  by_cases h1 : 1048576 < t
  · go_enter Try.func27, Try.ntmps27
    go_wp2
    go_ret
    exact ⟨retI _, rfl⟩
  · by_cases h2 : 1048576 < n
    · go_enter Try.func27, Try.ntmps27
      go_wp2
      go_ret
      exact ⟨retI _, rfl⟩
    · go_enter Try.func27, Try.ntmps27
      go_wp2
      go_ret
      exact ⟨retI _, rfl⟩

set_option maxHeartbeats 400000 in
theorem sizeStrings_any (t : Int) (a : Option Addr) (n c : Nat) (S : Nat → ByteArray) (w : World) (h : Strs 0 w a n c S) :
    Calls Try.prog 43 #[.int .i64 t, .slice a n c] w fun e w' => RetI e ∧ w = w' := by
  have hc := h.le
  have hm := h.cap
  have hs := h.size
  have ha := h.here
  clear h
  go_enter Try.func43, Try.ntmps43
  go_wp2_with (first | (go_at_call 27; refine (grow_any _ _ _ _).mono ?_; rintro e w' ⟨⟨r, rfl⟩, rfl⟩))
  go_loop [0, 5] (fun z i => ∃ (q : Int) (k : Nat), k ≤ n ∧ z = .int .i64 q ∧ i = .int .i64 k) (fun _ i => n - (intOf i).toNat)
  case atStart => exact ⟨_, 0, Nat.zero_le _, rfl, rfl⟩
  case round =>
    obtain ⟨q, k, hk, rfl, rfl⟩ := hrel
    by_cases hlt : k < n
    · obtain ⟨b, o, hao, _, hcell⟩ := ha (by omega)
      have hck := hcell k hlt
      have hsk := hs k hlt
      subst hao
      clear hcell ha hs
      go_wp2_with (first | (go_at_call 27; refine (grow_any _ _ _ _).mono ?_; rintro e w' ⟨⟨r, rfl⟩, rfl⟩))
      · go_ret
        exact ⟨retI _, rfl⟩
      · go_round
        case rel => exact ⟨_, k + 1, by omega, rfl, by go_num⟩
        case measure => simp [intOf]; omega
    · go_wp2
      go_ret
      exact ⟨retI _, rfl⟩
end Go.Proofs.Qxb6604078a
