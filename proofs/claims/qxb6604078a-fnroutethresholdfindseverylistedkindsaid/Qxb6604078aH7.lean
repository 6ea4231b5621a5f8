import Derived.Test.Qxb6604078aB2
import Derived.Test.Qxb6604078aC
import Derived.Test.Qxb6604078aG
namespace Go.Proofs.Qxb6604078a
open Go.RowKit

theorem info54 : ∃ j, Try.prog.info? 64 = some j ∧ j.size ≠ 0 := by
  obtain ⟨j, h1, h2⟩ := Option.map_eq_some_iff.1 info64
  simp only [Prod.mk.injEq] at h2
  exact ⟨j, h1, by rw [h2.2.1]; decide⟩

/-- The two loops, once all is laid. -/
theorem first_le {T : Nat → ThrV} {v : ByteArray} {i k : Nat} (hk : Among (T k).kn (T k).K v) (hno : ∀ j, j < i → ¬ Among (T j).kn (T j).K v) : i ≤ k := by
  rcases Nat.lt_or_ge k i with h | h
  · exact absurd hk (hno k h)
  · exact h

set_option maxHeartbeats 2000000 in
theorem law7_any (a : Option Addr) (n c : Nat) (T : Nat → ThrV) (w : World) (h : Thrs w a n c T) :
    Calls Try.prog 7 #[.slice a n c] w fun e w' => e = .returned (.bool true) ∧ Below w.heap.size w w' := by
  have g1 := h.le
  have g2 := h.cap
  have HT : Hid (Thrs w a n c T) := h
  clear h
  go_enter Try.func7, Try.ntmps7
  go_wp2_with fail
  refine (bytes22_any _ _ _ T _ HT.out).mono ?_
  rintro e w' ⟨⟨r, rfl⟩, rfl⟩
  cases r with
  | false =>
    go_wp2_with fail
    go_ret
    exact ⟨rfl, Below.refl _ _⟩
  | true =>
  go_wp2_with fail
  refine (sizeThresholds_any _ _ _ _ T _ HT.out).mono ?_
  rintro e w1 ⟨⟨q, rfl⟩, hb1⟩
  by_cases hq : 1048576 < q
  · go_wp2_with fail
    go_ret
    exact ⟨rfl, hb1⟩
  by_cases hn : 4096 < n
  · have hn' : (4096 : Int) < (n : Int) := by omega
    go_wp2_with fail
    go_ret
    exact ⟨rfl, hb1⟩
  have e1 : decide (1048576 < q) = false := by simpa using hq
  have e2 : decide ((4096 : Int) < (n : Int)) = false := by simp; omega
  clear hq hn
  go_wp2_with fail
  refine (countKinds_any _ _ _ T _ (HT.out.later hb1)).mono ?_
  rintro e w1' ⟨⟨q2, rfl⟩, rfl⟩
  by_cases hq2 : 4096 < q2
  · go_wp2_with fail
    go_ret
    exact ⟨rfl, hb1⟩
  have e3 : decide (4096 < q2) = false := by simpa using hq2
  clear hq2
  go_wp2_with fail
  refine (thresholds_any _ _ _ T _ (HT.out.later hb1)).mono ?_
  rintro e w2 ⟨a2, c2, rfl, hP, hb2⟩
  clear e1 e2 e3
  go_wp2_with fail
  have B2 : Below w.heap.size w w2 := hb1.trans (hb2.mono hb1.size)
  have hW : Below w2.heap.size w2 (w2.alloc (.cells #[.string ⟨#[]⟩, .string ⟨#[]⟩, .slice none 0 0, .slice a2 n c2] 38)) := (Below.refl _ _).alloc (Nat.le_refl _) _
  have hr : (w2.alloc (.cells #[.string ⟨#[]⟩, .string ⟨#[]⟩, .slice none 0 0, .slice a2 n c2] 38)).cell? ⟨w2.heap.size, 3, none⟩ = some (.slice a2 n c2) := cell_new w2 _ 38 rfl
  have hPW := hP.same (.of_below hW)
  have BW := B2.trans (hW.mono B2.size)
  have HTW := HT.out.later BW
  clear hW hP hb2 hb1 B2 HT
  generalize (w2.alloc (.cells #[.string ⟨#[]⟩, .string ⟨#[]⟩, .slice none 0 0, .slice a2 n c2] 38)) = W at *
  have ha := HTW.here
  have hp := hPW.here
  have hpn := hPW.nil
  obtain ⟨ji, j1, j2⟩ := info54
  have heq := fun b o1 o2 w => run_eql_ptr (P := Try.prog) (t := 57) (te := 64) Try.underlying57 j1 j2 b o1 o2 w
  clear HTW j1 j2
  go_loop [4] (fun i => ∃ k : Nat, k ≤ n ∧ i = .int .i64 k) (fun i => n - (intOf i).toNat)
  case atStart => exact ⟨0, Nat.zero_le _, rfl⟩
  case round =>
    obtain ⟨k, hk, rfl⟩ := hrel
    by_cases hlt : k < n
    · obtain ⟨b, o, hao, hbl, hat⟩ := ha (by omega)
      obtain ⟨c0, c1, s0, s1⟩ := hat k hlt
      obtain ⟨pb, po, hpa, hpl, hpat⟩ := hp (by omega)
      subst hao
      subst hpa
      clear hat c1 s1 ha hp hpn
      generalize hka : (T k).ka = ka at c0 s0
      clear hka
      go_wp2_with fail
      go_loop [5] (fun i => ∃ j : Nat, j ≤ (T k).kn ∧ i = .int .i64 j) (fun i => (T k).kn - (intOf i).toNat)
      case atStart => exact ⟨0, Nat.zero_le _, rfl⟩
      case round =>
        obtain ⟨j, hj, rfl⟩ := hrel
        have t1 := s0.le
        have t2 := s0.cap
        by_cases hjlt : j < (T k).kn
        · obtain ⟨b2, o2, hao2, _, hcell2⟩ := s0.here (by omega)
          have hcj := hcell2 j hjlt
          subst hao2
          have ham : Among (T k).kn (T k).K ((T k).K j) := ⟨j, hjlt, rfl⟩
          clear hcell2 s0
          go_wp2_with fail
          refine (zzThreshold_any _ _ _ _ T _ _ hr hPW).mono ?_
          rintro e w' ⟨hf, rfl⟩
          rcases hf with ⟨h1, -⟩ | ⟨b', o', i0, hab, h2, h3, h4, rfl⟩
          · exact absurd ham (h1 k hlt)
          simp only [Option.some.injEq, Addr.mk.injEq, and_true] at hab
          obtain ⟨rfl, rfl⟩ := hab
          have hik := first_le ham h4
          obtain ⟨ka', kc', aa', ac', d0, -, d2, -⟩ := hpat i0 h2
          clear h4 ham
          go_wp2_with fail
          refine (listedK_yes _ _ _ _ _ _ d2 h3).mono ?_
          rintro e w' ⟨rfl, rfl⟩
          clear h3 d2 d0 hcj
          go_wp2_with fail
          go_loop [8, 9] (fun f i => ∃ m : Nat, m ≤ k + 1 ∧ i = .int .i64 m ∧ f = .bool (decide (i0 < m))) (fun _ i => k + 1 - (intOf i).toNat)
          case atStart => exact ⟨0, Nat.zero_le _, rfl, by simp⟩
          case round =>
            obtain ⟨m, hm, rfl, rfl⟩ := hrel
            by_cases hmk : m ≤ k
            · by_cases hmi : m = i0
              · subst hmi
                go_wp2_with fail
                go_round
                case rel => exact ⟨m + 1, by omega, by go_num, by simp⟩
                case measure => simp [intOf]; omega
              · have hmo : decide (pb = pb ∧ po + m * 2 = po + i0 * 2) = false := by simp; omega
                have hmo' : decide (po + m * 2 = po + i0 * 2) = false := by simp; omega
                go_wp2_with fail
                go_round
                case rel => exact ⟨m + 1, by omega, by go_num, congrArg Value.bool (decide_eq_decide.2 (by omega))⟩
                case measure => simp [intOf]; omega
            · have hfd : decide (i0 < m) = true := by simp; omega
              go_wp2_with fail
              go_round
              case rel => exact ⟨j + 1, by omega, by go_num⟩
              case measure => simp [intOf]; omega
        · go_wp2_with fail
          go_round
          case rel => exact ⟨k + 1, by omega, by go_num⟩
          case measure => simp [intOf]; omega
    · go_wp2_with fail
      go_ret
      exact ⟨rfl, BW⟩
end Go.Proofs.Qxb6604078a
