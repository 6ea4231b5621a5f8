import Derived.Test.Qxb6604078aG
import Derived.Test.Qxb6604078aB3
import Derived.Test.Qxb6604078aF2
namespace Go.Proofs.Qxb6604078a
open Go.RowKit

set_option maxHeartbeats 400000 in
theorem indexS_no {B : Nat} (a : Option Addr) (n c : Nat) (S : Nat → ByteArray) (v : ByteArray) (w : World) (h : Strs B w a n c S) (hv : ¬ Among n S v) :
    Calls Try.prog 47 #[.slice a n c, .string v] w fun e w' => e = .returned (.int .i64 (-1)) ∧ w = w' := by
  have hc := h.le
  have hm := h.cap
  have ha := h.here
  clear h
  go_enter Try.func47, Try.ntmps47
  go_wp2
  go_loop [8] (fun i => ∃ (k : Nat), k ≤ n ∧ i = .int .i64 k) (fun i => n - (intOf i).toNat)
  case atStart => exact ⟨0, Nat.zero_le _, rfl⟩
  case round =>
    obtain ⟨k, hk, rfl⟩ := hrel
    by_cases hlt : k < n
    · obtain ⟨b, o, hao, _, hcell⟩ := ha (by omega)
      have hck := hcell k hlt
      have hne : (v.toList == (S k).toList) = false := beq_no (fun e => hv ⟨k, hlt, e.symm⟩)
      subst hao
      clear hcell ha hv
      go_wp2
      go_round
      case rel => exact ⟨k + 1, by omega, by go_num⟩
      case measure => simp [intOf]; omega
    · go_wp2
      go_ret
      exact ⟨rfl, rfl⟩

set_option maxHeartbeats 400000 in
theorem indexS_yes {B : Nat} (a : Option Addr) (n c : Nat) (S : Nat → ByteArray) (v : ByteArray) (w : World) (h : Strs B w a n c S) (hv : Among n S v) :
    Calls Try.prog 47 #[.slice a n c, .string v] w fun e w' => (∃ r : Nat, r < n ∧ e = .returned (.int .i64 (r : Int))) ∧ w = w' := by
  have hc := h.le
  have hm := h.cap
  have ha := h.here
  clear h
  go_enter Try.func47, Try.ntmps47
  go_wp2
  go_loop [8] (fun i => ∃ (k : Nat), k ≤ n ∧ i = .int .i64 k ∧ ∀ j, j < k → ¬ S j = v) (fun i => n - (intOf i).toNat)
  case atStart => exact ⟨0, Nat.zero_le _, rfl, fun j hj => absurd hj (Nat.not_lt_zero _)⟩
  case round =>
    obtain ⟨k, hk, rfl, hno⟩ := hrel
    have HN : Hid (∀ j, j < k → ¬ S j = v) := hno
    clear hno
    by_cases hlt : k < n
    · obtain ⟨b, o, hao, _, hcell⟩ := ha (by omega)
      have hck := hcell k hlt
      subst hao
      clear hcell ha
      by_cases hs : S k = v
      · have hne : (v.toList == (S k).toList) = true := beq_yes hs.symm
        clear hs hv
        go_wp2
        go_ret
        exact ⟨⟨k, hlt, rfl⟩, rfl⟩
      · have hne : (v.toList == (S k).toList) = false := beq_no (fun e => hs e.symm)
        have HS : Hid (¬ S k = v) := hs
        clear hs hv
        go_wp2
        go_round
        case rel => exact ⟨k + 1, by omega, by go_num, fun j hj => by
          by_cases e : j = k
          · rw [e]; exact HS.out
          · exact HN.out j (by omega)⟩
        case measure => simp [intOf]; omega
    · exfalso
      obtain ⟨j, hj, e⟩ := hv
      exact HN.out j (by omega) e

set_option maxHeartbeats 400000 in
theorem containsS_no {B : Nat} (a : Option Addr) (n c : Nat) (S : Nat → ByteArray) (v : ByteArray) (w : World) (h : Strs B w a n c S) (hv : ¬ Among n S v) :
    Calls Try.prog 41 #[.slice a n c, .string v] w fun e w' => e = .returned (.bool false) ∧ w = w' := by
  go_enter Try.func41, Try.ntmps41
  go_wp2_with (first | (go_at_call 47; refine (indexS_no _ _ _ S _ _ h hv).mono ?_; rintro e w' ⟨rfl, rfl⟩))
  go_ret
  exact ⟨rfl, rfl⟩

set_option maxHeartbeats 400000 in
theorem containsS_yes {B : Nat} (a : Option Addr) (n c : Nat) (S : Nat → ByteArray) (v : ByteArray) (w : World) (h : Strs B w a n c S) (hv : Among n S v) :
    Calls Try.prog 41 #[.slice a n c, .string v] w fun e w' => e = .returned (.bool true) ∧ w = w' := by
  go_enter Try.func41, Try.ntmps41
  go_wp2_with fail
  refine (indexS_yes _ _ _ S _ _ h hv).mono ?_
  rintro e w' ⟨⟨r, hr, rfl⟩, rfl⟩
  have h0 : (0 : Int) ≤ (r : Int) := by omega
  go_wp2
  go_ret
  exact ⟨rfl, rfl⟩

set_option maxHeartbeats 400000 in
theorem listed_yes {B : Nat} (a : Option Addr) (n c : Nat) (S : Nat → ByteArray) (v : ByteArray) (w : World) (h : Strs B w a n c S) (hv : Among n S v) :
    Calls Try.prog 21 #[.slice a n c, .string v] w fun e w' => e = .returned (.bool true) ∧ w = w' := by
  have hc := h.le
  have hm := h.cap
  have ha := h.here
  clear h
  go_enter Try.func21, Try.ntmps21
  go_wp2
  go_loop [5] (fun i => ∃ (k : Nat), k ≤ n ∧ i = .int .i64 k ∧ ∀ j, j < k → ¬ S j = v) (fun i => n - (intOf i).toNat)
  case atStart => exact ⟨0, Nat.zero_le _, rfl, fun j hj => absurd hj (Nat.not_lt_zero _)⟩
  case round =>
    obtain ⟨k, hk, rfl, hno⟩ := hrel
    have HN : Hid (∀ j, j < k → ¬ S j = v) := hno
    clear hno
    by_cases hlt : k < n
    · obtain ⟨b, o, hao, _, hcell⟩ := ha (by omega)
      have hck := hcell k hlt
      subst hao
      clear hcell ha
      by_cases hs : S k = v
      · have hne : ((S k).toList == v.toList) = true := beq_yes hs
        clear hs hv
        go_wp2
        go_ret
        exact ⟨rfl, rfl⟩
      · have hne : ((S k).toList == v.toList) = false := beq_no hs
        have HS : Hid (¬ S k = v) := hs
        clear hs hv
        go_wp2
        go_round
        case rel => exact ⟨k + 1, by omega, by go_num, fun j hj => by
          by_cases e : j = k
          · rw [e]; exact HS.out
          · exact HN.out j (by omega)⟩
        case measure => simp [intOf]; omega
    · exfalso
      obtain ⟨j, hj, e⟩ := hv
      exact HN.out j (by omega) e

set_option maxHeartbeats 400000 in
theorem listed_no {B : Nat} (a : Option Addr) (n c : Nat) (S : Nat → ByteArray) (v : ByteArray) (w : World) (h : Strs B w a n c S) (hv : ¬ Among n S v) :
    Calls Try.prog 21 #[.slice a n c, .string v] w fun e w' => e = .returned (.bool false) ∧ w = w' := by
  have hc := h.le
  have hm := h.cap
  have ha := h.here
  clear h
  go_enter Try.func21, Try.ntmps21
  go_wp2
  go_loop [5] (fun i => ∃ (k : Nat), k ≤ n ∧ i = .int .i64 k) (fun i => n - (intOf i).toNat)
  case atStart => exact ⟨0, Nat.zero_le _, rfl⟩
  case round =>
    obtain ⟨k, hk, rfl⟩ := hrel
    by_cases hlt : k < n
    · obtain ⟨b, o, hao, _, hcell⟩ := ha (by omega)
      have hck := hcell k hlt
      have hne : ((S k).toList == v.toList) = false := beq_no (fun e => hv ⟨k, hlt, e⟩)
      subst hao
      clear hcell ha hv
      go_wp2
      go_round
      case rel => exact ⟨k + 1, by omega, by go_num⟩
      case measure => simp [intOf]; omega
    · go_wp2
      go_ret
      exact ⟨rfl, rfl⟩

set_option maxHeartbeats 1000000 in
theorem sizeRouteArgs_any (bo ti ex : ByteArray) (sa : Option Addr) (sn sc : Nat) (S : Nat → TwoV) (ta : Option Addr) (tn tc : Nat) (T : Nat → ThrV) (w : World) (hS : Twos w sa sn sc S) (hT : Thrs w ta tn tc T) :
    Calls Try.prog 16 #[.string bo, .string ti, .slice sa sn sc, .slice ta tn tc, .string ex] w fun e w' => RetI e ∧ Below w.heap.size w w' := by
  go_enter Try.func16, Try.ntmps16
  go_wp2_with (first | (go_at_call 27; refine (grow_any _ _ _ _).mono ?_; rintro e w' ⟨⟨r, rfl⟩, rfl⟩) | (go_at_call 33; refine (sizeSteps_any _ _ _ _ S _ hS).mono ?_; rintro e w' ⟨⟨r, rfl⟩, rfl⟩))
  refine (sizeThresholds_any _ _ _ _ T _ hT).mono ?_
  rintro e w1 ⟨⟨r, rfl⟩, hb⟩
  go_wp2
  go_ret
  exact ⟨retI _, hb⟩

/-! ### (*Route).measures -/

def Names (n : Nat) (T : Nat → ThrV) (v : ByteArray) : Prop := ∃ i, i < n ∧ ∃ j, j < (T i).cn ∧ Among ((T i).C j).on ((T i).C j).O v

end Go.Proofs.Qxb6604078a
