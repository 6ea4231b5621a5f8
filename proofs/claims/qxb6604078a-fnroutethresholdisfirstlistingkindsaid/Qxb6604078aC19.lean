import Derived.Test.Qxb6604078aA2
namespace Go.Proofs.Qxb6604078a
open Go.RowKit

set_option maxRecDepth 100000 in
set_option maxHeartbeats 40000000 in
theorem bytes19_any (bo ti fi : ByteArray) (sa : Option Addr) (sn sc : Nat) (S : Nat → TwoV) (ta : Option Addr) (tn tc : Nat) (T : Nat → ThrV) (w : World) (hS : Twos w sa sn sc S) (hT : Thrs w ta tn tc T)
    (b0 : bo.size ≤ 9223372036854775807) (t0 : ti.size ≤ 9223372036854775807) :
    Calls Try.prog 19 #[.string bo, .string ti, .slice sa sn sc, .slice ta tn tc, .string fi] w fun e w' => RetB e ∧ w = w' := by
  have hc := hS.le
  have hm := hS.cap
  have ha := hS.here
  have gc := hT.le
  have gm := hT.cap
  have ga := hT.here
  clear hS hT
  go_enter Try.func19, Try.ntmps19
  go_wp2
  · go_ret; exact ⟨retB _, rfl⟩
  · go_ret; exact ⟨retB _, rfl⟩
  · go_ret; exact ⟨retB _, rfl⟩
  · go_ret; exact ⟨retB _, rfl⟩
  · go_ret; exact ⟨retB _, rfl⟩
  go_loop [11, 12] (fun z i => ∃ (q : Int) (k : Nat), k ≤ sn ∧ z = .int .i64 q ∧ i = .int .i64 k) (fun _ i => sn - (intOf i).toNat)
  case atStart => exact ⟨_, 0, Nat.zero_le _, rfl, rfl⟩
  case round =>
    obtain ⟨q1, k1, hk1, rfl, rfl⟩ := hrel
    by_cases hlt1 : k1 < sn
    · obtain ⟨b1, o1, hao1, _, hat1⟩ := ha (by omega)
      have hc1 := hat1 k1 hlt1
      generalize S k1 = d1 at hc1
      obtain ⟨dx1, dy1⟩ := d1
      obtain ⟨x01, x11, y01, y11⟩ := hc1
      simp only at x01 x11 y01 y11
      subst hao1
      clear hat1 ha
      go_wp2
      · go_ret; exact ⟨retB _, rfl⟩
      · go_ret; exact ⟨retB _, rfl⟩
      · go_ret; exact ⟨retB _, rfl⟩
      · go_ret; exact ⟨retB _, rfl⟩
      go_round
      case rel => exact ⟨_, k1 + 1, by omega, rfl, by go_num⟩
      case measure => simp [intOf]; omega
    · clear ha
      go_wp2
      · go_ret; exact ⟨retB _, rfl⟩
      · go_ret; exact ⟨retB _, rfl⟩
      go_loop [11, 13] (fun z i => ∃ (q : Int) (k : Nat), k ≤ tn ∧ z = .int .i64 q ∧ i = .int .i64 k) (fun _ i => tn - (intOf i).toNat)
      case atStart => exact ⟨_, 0, Nat.zero_le _, rfl, rfl⟩
      case round =>
        obtain ⟨q2, k2, hk2, rfl, rfl⟩ := hrel
        by_cases hlt2 : k2 < tn
        · obtain ⟨b2, o2, hao2, _, hat2⟩ := ga (by omega)
          have hc2 := hat2 k2 hlt2
          generalize T k2 = d2 at hc2
          obtain ⟨ka2, kn2, kc2, K2, ca2, cn2, cc2, C2⟩ := d2
          obtain ⟨x02, x12, s02, s12⟩ := hc2
          simp only at x02 x12 s02 s12
          obtain ⟨k12, k22, -, k42, k52⟩ := s02
          obtain ⟨d12, d22, -, d42⟩ := s12
          subst hao2
          clear hat2 ga
          go_wp2
          · go_ret; exact ⟨retB _, rfl⟩
          · go_ret; exact ⟨retB _, rfl⟩
          go_loop [11, 14] (fun z i => ∃ (q : Int) (k : Nat), k ≤ kn2 ∧ z = .int .i64 q ∧ i = .int .i64 k) (fun _ i => kn2 - (intOf i).toNat)
          case atStart => exact ⟨_, 0, Nat.zero_le _, rfl, rfl⟩
          case round =>
            obtain ⟨q3, k3, hk3, rfl, rfl⟩ := hrel
            by_cases hlt3 : k3 < kn2
            · obtain ⟨b3, o3, hao3, _, hat3⟩ := k42 (by omega)
              have hc3 := hat3 k3 hlt3
              have hs3 := k52 k3 hlt3
              subst hao3
              clear hat3 k42 k52
              go_wp2
              · go_ret; exact ⟨retB _, rfl⟩
              · go_ret; exact ⟨retB _, rfl⟩
              go_round
              case rel => exact ⟨_, k3 + 1, by omega, rfl, by go_num⟩
              case measure => simp [intOf]; omega
            · clear k42 k52
              go_wp2
              · go_ret; exact ⟨retB _, rfl⟩
              · go_ret; exact ⟨retB _, rfl⟩
              go_loop [11, 15] (fun z i => ∃ (q : Int) (k : Nat), k ≤ cn2 ∧ z = .int .i64 q ∧ i = .int .i64 k) (fun _ i => cn2 - (intOf i).toNat)
              case atStart => exact ⟨_, 0, Nat.zero_le _, rfl, rfl⟩
              case round =>
                obtain ⟨q4, k4, hk4, rfl, rfl⟩ := hrel
                by_cases hlt4 : k4 < cn2
                · obtain ⟨b4, o4, hao4, _, hat4⟩ := d42 (by omega)
                  have hc4 := hat4 k4 hlt4
                  generalize C2 k4 = d4 at hc4
                  obtain ⟨am4, sh4, oa4, on4, oc4, O4, bd4⟩ := d4
                  obtain ⟨x04, x14, x24, x34, y04, y14, y24, y34⟩ := hc4
                  simp only at x04 x14 x24 x34 y04 y14 y24 y34
                  obtain ⟨z14, z24, -, z44, z54⟩ := y24
                  subst hao4
                  clear hat4 d42
                  go_wp2
                  · go_ret; exact ⟨retB _, rfl⟩
                  · go_ret; exact ⟨retB _, rfl⟩
                  · go_ret; exact ⟨retB _, rfl⟩
                  · go_ret; exact ⟨retB _, rfl⟩
                  · go_ret; exact ⟨retB _, rfl⟩
                  · go_ret; exact ⟨retB _, rfl⟩
                  go_loop [11, 16] (fun z i => ∃ (q : Int) (k : Nat), k ≤ on4 ∧ z = .int .i64 q ∧ i = .int .i64 k) (fun _ i => on4 - (intOf i).toNat)
                  case atStart => exact ⟨_, 0, Nat.zero_le _, rfl, rfl⟩
                  case round =>
                    obtain ⟨q5, k5, hk5, rfl, rfl⟩ := hrel
                    by_cases hlt5 : k5 < on4
                    · obtain ⟨b5, o5, hao5, _, hat5⟩ := z44 (by omega)
                      have hc5 := hat5 k5 hlt5
                      have hs5 := z54 k5 hlt5
                      subst hao5
                      clear hat5 z44 z54
                      go_wp2
                      · go_ret; exact ⟨retB _, rfl⟩
                      · go_ret; exact ⟨retB _, rfl⟩
                      go_round
                      case rel => exact ⟨_, k5 + 1, by omega, rfl, by go_num⟩
                      case measure => simp [intOf]; omega
                    · clear z44 z54
                      go_wp2
                      · go_ret; exact ⟨retB _, rfl⟩
                      · go_ret; exact ⟨retB _, rfl⟩
                      go_round
                      case rel => exact ⟨_, k4 + 1, by omega, rfl, by go_num⟩
                      case measure => simp [intOf]; omega
                · clear d42
                  go_wp2
                  go_round
                  case rel => exact ⟨_, k2 + 1, by omega, rfl, by go_num⟩
                  case measure => simp [intOf]; omega
        · clear ga
          go_wp2
          · go_ret; exact ⟨retB _, rfl⟩
          · go_ret; exact ⟨retB _, rfl⟩
          go_ret
          exact ⟨retB _, rfl⟩
end Go.Proofs.Qxb6604078a
