import Derived.Test.Qxb6604078aB
namespace Go.Proofs.Qxb6604078a
open Go.RowKit

set_option maxHeartbeats 400000 in
theorem sizeCond_any (t : Int) (am sh bd : ByteArray) (oa : Option Addr) (on oc : Nat) (O : Nat → ByteArray) (w : World) (h : Strs 0 w oa on oc O) :
    Calls Try.prog 44 #[.int .i64 t, .agg #[.string am, .string sh, .slice oa on oc, .string bd]] w fun e w' => RetI e ∧ Below w.heap.size w w' := by
  go_enter Try.func44, Try.ntmps44
  go_wp2_with (first | (go_at_call 27; refine (grow_any _ _ _ _).mono ?_; rintro e w' ⟨⟨r, rfl⟩, rfl⟩) | (go_at_call 43; refine (sizeStrings_any _ _ _ _ O _ ?_).mono ?_; (exact h.later ((Below.refl _ _).alloc (Nat.le_refl _) _)); rintro e w' ⟨⟨r, rfl⟩, rfl⟩))
  go_ret
  exact ⟨retI _, (Below.refl _ _).alloc (Nat.le_refl _) _⟩

set_option maxHeartbeats 1000000 in
theorem sizeThreshold_any (t : Int) (ka : Option Addr) (kn kc : Nat) (K : Nat → ByteArray) (ca : Option Addr) (cn cc : Nat) (C : Nat → CondV) (w : World) (hK : Strs 0 w ka kn kc K) (hC : Conds w ca cn cc C) :
    Calls Try.prog 37 #[.int .i64 t, .agg #[.slice ka kn kc, .slice ca cn cc]] w fun e w' => RetI e ∧ Below w.heap.size w w' := by
  have c1 := hC.le
  have c2 := hC.cap
  go_enter Try.func37, Try.ntmps37
  go_wp2_with (first | (go_at_call 27; refine (grow_any _ _ _ _).mono ?_; rintro e w' ⟨⟨r, rfl⟩, rfl⟩) | (go_at_call 43; refine (sizeStrings_any _ _ _ _ K _ ?_).mono ?_; (exact hK.later ((Below.refl _ _).alloc (Nat.le_refl _) _)); rintro e w' ⟨⟨r, rfl⟩, rfl⟩))
  go_loopw [0, 5] (fun z i wr => ∃ (q : Int) (k : Nat), k ≤ cn ∧ z = .int .i64 q ∧ i = .int .i64 k ∧ wr.cell? ⟨w.heap.size, 1, none⟩ = some (.slice ca cn cc) ∧ w.heap.size < wr.heap.size ∧ Below w.heap.size w wr) (fun _ i _ => cn - (intOf i).toNat)
  case atStart => exact ⟨_, 0, Nat.zero_le _, rfl, rfl, by simp, by simp, (Below.refl _ _).alloc (Nat.le_refl _) _⟩
  case round =>
    obtain ⟨q, k, hk, rfl, rfl, hcell, hsz, hb⟩ := hrel
    by_cases hlt : k < cn
    · obtain ⟨b, o, hao, hbl, hat⟩ := hC.here (by omega)
      have hck := (hat k hlt).later hbl hb
      subst hao
      clear hat
      generalize C k = d at hck
      obtain ⟨am, sh, oa, on, oc, O, bd⟩ := d
      obtain ⟨x0, x1, x2, x3, y0, y1, y2, y3⟩ := hck
      simp only at x0 x1 x2 x3 y0 y1 y2 y3
      go_wp2_with (first | (go_at_call 44; refine (sizeCond_any _ _ _ _ _ _ _ O _ y2).mono ?_; rintro e w' ⟨⟨r, rfl⟩, hb1⟩))
      · go_ret
        exact ⟨retI _, hb⟩
      · go_roundw
        case rel => exact ⟨_, k + 1, by omega, rfl, by go_num, (hb1.cell (p := ⟨w.heap.size, 1, none⟩) hsz).trans hcell, Nat.lt_of_lt_of_le hsz hb1.size, hb.trans (hb1.mono hb.size)⟩
        case measure => simp [intOf]; omega
    · go_wp2
      go_ret
      exact ⟨retI _, hb⟩

set_option maxHeartbeats 1000000 in
theorem sizeThresholds_any (t : Int) (a : Option Addr) (n c : Nat) (T : Nat → ThrV) (w : World) (h : Thrs w a n c T) :
    Calls Try.prog 23 #[.int .i64 t, .slice a n c] w fun e w' => RetI e ∧ Below w.heap.size w w' := by
  have c1 := h.le
  have c2 := h.cap
  have ha := h.here
  clear h
  go_enter Try.func23, Try.ntmps23
  go_wp2_with (first | (go_at_call 27; refine (grow_any _ _ _ _).mono ?_; rintro e w' ⟨⟨r, rfl⟩, rfl⟩))
  go_loopw [0, 5] (fun z i wr => ∃ (q : Int) (k : Nat), k ≤ n ∧ z = .int .i64 q ∧ i = .int .i64 k ∧ Below w.heap.size w wr) (fun _ i _ => n - (intOf i).toNat)
  case atStart => exact ⟨_, 0, Nat.zero_le _, rfl, rfl, Below.refl _ _⟩
  case round =>
    obtain ⟨q, k, hk, rfl, rfl, hb⟩ := hrel
    by_cases hlt : k < n
    · obtain ⟨b, o, hao, hbl, hat⟩ := ha (by omega)
      have hck := (hat k hlt).later hbl hb
      subst hao
      clear hat ha
      generalize T k = d at hck
      obtain ⟨ka, kn, kc, K, ca, cn, cc, C⟩ := d
      obtain ⟨x0, x1, s0, s1⟩ := hck
      simp only at x0 x1 s0 s1
      go_wp2_with (first | (go_at_call 37; refine (sizeThreshold_any _ _ _ _ K _ _ _ C _ s0 s1).mono ?_; rintro e w' ⟨⟨r, rfl⟩, hb1⟩))
      · go_ret
        exact ⟨retI _, hb⟩
      · go_roundw
        case rel => exact ⟨_, k + 1, by omega, rfl, by go_num, hb.trans (hb1.mono hb.size)⟩
        case measure => simp [intOf]; omega
    · go_wp2
      go_ret
      exact ⟨retI _, hb⟩

set_option maxHeartbeats 1000000 in
theorem countKinds_any (a : Option Addr) (n c : Nat) (T : Nat → ThrV) (w : World) (h : Thrs w a n c T) :
    Calls Try.prog 24 #[.slice a n c] w fun e w' => RetI e ∧ w = w' := by
  have c1 := h.le
  have c2 := h.cap
  have ha := h.here
  clear h
  go_enter Try.func24, Try.ntmps24
  go_wp2
  go_loop [3, 4] (fun z i => ∃ (q : Int) (k : Nat), k ≤ n ∧ z = .int .i64 q ∧ i = .int .i64 k) (fun _ i => n - (intOf i).toNat)
  case atStart => exact ⟨_, 0, Nat.zero_le _, rfl, rfl⟩
  case round =>
    obtain ⟨q, k, hk, rfl, rfl⟩ := hrel
    by_cases hlt : k < n
    · obtain ⟨b, o, hao, hbl, hat⟩ := ha (by omega)
      have hck := hat k hlt
      subst hao
      clear hat ha
      generalize T k = d at hck
      obtain ⟨ka, kn, kc, K, ca, cn, cc, C⟩ := d
      obtain ⟨x0, x1, s0, s1⟩ := hck
      simp only at x0 x1 s0 s1
      go_wp2
      go_round
      case rel => exact ⟨_, k + 1, by omega, rfl, by go_num⟩
      case measure => simp [intOf]; omega
    · go_wp2
      go_ret
      exact ⟨retI _, rfl⟩
end Go.Proofs.Qxb6604078a
