import Derived.Test.Qxb6604078aA
namespace Go.Proofs.Qxb6604078a
open Go.RowKit

set_option maxRecDepth 100000 in
set_option maxHeartbeats 4000000 in
theorem bytes22_any (a : Option Addr) (n c : Nat) (T : Nat → ThrV) (w : World) (h : Thrs w a n c T) :
    Calls Try.prog 22 #[.slice a n c] w fun e w' => RetB e ∧ w = w' := by
  have hc := h.le
  have hm := h.cap
  have ha := h.here
  clear h
  go_enter Try.func22, Try.ntmps22
  go_wp2
  · go_ret; exact ⟨retB _, rfl⟩
  go_loop [3, 4] (fun z i => ∃ (q : Int) (k : Nat), k ≤ n ∧ z = .int .i64 q ∧ i = .int .i64 k) (fun _ i => n - (intOf i).toNat)
  case atStart => exact ⟨_, 0, Nat.zero_le _, rfl, rfl⟩
  case round =>
    obtain ⟨q, k, hk, rfl, rfl⟩ := hrel
    by_cases hlt : k < n
    · obtain ⟨b, o, hao, _, hcell⟩ := ha (by omega)
      have hck := hcell k hlt
      subst hao
      clear hcell ha
      generalize T k = d at hck
      obtain ⟨ka, kn, kc, K, ca, cn, cc, C⟩ := d
      obtain ⟨c0, c1, s0, s1⟩ := hck
      simp only at c0 c1 s0 s1
      obtain ⟨k1, k2, -, k4, k5⟩ := s0
      obtain ⟨d1, d2, -, d4⟩ := s1
      go_wp2
      · go_ret; exact ⟨retB _, rfl⟩
      · go_ret; exact ⟨retB _, rfl⟩
      go_loop [3, 5] (fun z i => ∃ (q : Int) (k : Nat), k ≤ kn ∧ z = .int .i64 q ∧ i = .int .i64 k) (fun _ i => kn - (intOf i).toNat)
      case atStart => exact ⟨_, 0, Nat.zero_le _, rfl, rfl⟩
      case round =>
        obtain ⟨q2, j, hj, rfl, rfl⟩ := hrel
        by_cases hjlt : j < kn
        · obtain ⟨b2, o2, hao2, _, hcell2⟩ := k4 (by omega)
          have hcj := hcell2 j hjlt
          have hsj := k5 j hjlt
          subst hao2
          clear hcell2 k4 k5
          go_wp2
          · go_ret; exact ⟨retB _, rfl⟩
          · go_ret; exact ⟨retB _, rfl⟩
          go_round
          case rel => exact ⟨_, j + 1, by omega, rfl, by go_num⟩
          case measure => simp [intOf]; omega
        · clear k4 k5
          go_wp2
          · go_ret; exact ⟨retB _, rfl⟩
          · go_ret; exact ⟨retB _, rfl⟩
          go_loop [3, 6] (fun z i => ∃ (q : Int) (k : Nat), k ≤ cn ∧ z = .int .i64 q ∧ i = .int .i64 k) (fun _ i => cn - (intOf i).toNat)
          case atStart => exact ⟨_, 0, Nat.zero_le _, rfl, rfl⟩
          case round =>
            obtain ⟨q3, m, hm3, rfl, rfl⟩ := hrel
            by_cases hmlt : m < cn
            · obtain ⟨b3, o3, hao3, _, hcell3⟩ := d4 (by omega)
              have hcm := hcell3 m hmlt
              subst hao3
              clear hcell3 d4
              generalize C m = d at hcm
              obtain ⟨am, sh, oa, on, oc, O, bd⟩ := d
              obtain ⟨x0, x1, x2, x3, y0, y1, y2, y3⟩ := hcm
              simp only at x0 x1 x2 x3 y0 y1 y2 y3
              obtain ⟨z1, z2, -, z4, z5⟩ := y2
              go_wp2
              · go_ret; exact ⟨retB _, rfl⟩
              · go_ret; exact ⟨retB _, rfl⟩
              · go_ret; exact ⟨retB _, rfl⟩
              · go_ret; exact ⟨retB _, rfl⟩
              · go_ret; exact ⟨retB _, rfl⟩
              · go_ret; exact ⟨retB _, rfl⟩
              go_loop [3, 7] (fun z i => ∃ (q : Int) (k : Nat), k ≤ on ∧ z = .int .i64 q ∧ i = .int .i64 k) (fun _ i => on - (intOf i).toNat)
              case atStart => exact ⟨_, 0, Nat.zero_le _, rfl, rfl⟩
              case round =>
                obtain ⟨q4, p, hp, rfl, rfl⟩ := hrel
                by_cases hplt : p < on
                · obtain ⟨b4, o4, hao4, _, hcell4⟩ := z4 (by omega)
                  have hcp := hcell4 p hplt
                  have hsp := z5 p hplt
                  subst hao4
                  clear hcell4 z4 z5
                  go_wp2
                  · go_ret; exact ⟨retB _, rfl⟩
                  · go_ret; exact ⟨retB _, rfl⟩
                  go_round
                  case rel => exact ⟨_, p + 1, by omega, rfl, by go_num⟩
                  case measure => simp [intOf]; omega
                · clear z4 z5
                  go_wp2
                  · go_ret; exact ⟨retB _, rfl⟩
                  · go_ret; exact ⟨retB _, rfl⟩
                  go_round
                  case rel => exact ⟨_, m + 1, by omega, rfl, by go_num⟩
                  case measure => simp [intOf]; omega
            · go_wp2
              go_round
              case rel => exact ⟨_, k + 1, by omega, rfl, by go_num⟩
              case measure => simp [intOf]; omega
    · go_wp2
      go_ret
      exact ⟨retB _, rfl⟩
end Go.Proofs.Qxb6604078a
