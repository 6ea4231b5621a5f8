import Derived.Test.Qxb6604078aG2
import Derived.Test.Qxb6604078aC19
namespace Go.Proofs.Qxb6604078a
open Go.RowKit

theorem sizeInfo64 : ∃ j, Try.prog.info? 64 = some j ∧ j.size ≠ 0 := by
  obtain ⟨j, h1, h2⟩ := Option.map_eq_some_iff.1 info64
  simp only [Prod.mk.injEq] at h2
  exact ⟨j, h1, by rw [h2.2.1]; decide⟩

set_option maxHeartbeats 2000000 in
theorem law6_any (bo ti v : ByteArray) (sa : Option Addr) (sn sc : Nat) (S : Nat → TwoV) (ta : Option Addr) (tn tc : Nat) (T : Nat → ThrV) (w : World) (hS : Twos w sa sn sc S) (hT : Thrs w ta tn tc T)
    (b0 : bo.size ≤ 9223372036854775807) (t0 : ti.size ≤ 9223372036854775807) :
    Calls Try.prog 6 #[.string bo, .string ti, .slice sa sn sc, .slice ta tn tc, .string v] w fun e w' => e = .returned (.bool true) ∧ Below w.heap.size w w' := by
  have g1 := hT.le
  have g2 := hT.cap
  have HS : Hid (Twos w sa sn sc S) := hS
  have HT : Hid (Thrs w ta tn tc T) := hT
  clear hS hT
  go_enter Try.func6, Try.ntmps6
  go_wp2_with fail
  refine (bytes19_any bo ti v sa sn sc S ta tn tc T _ HS.out HT.out b0 t0).mono ?_
  rintro e w' ⟨⟨r, rfl⟩, rfl⟩
  clear b0 t0
  cases r with
  | false =>
    go_wp2_with fail
    go_ret
    exact ⟨rfl, Below.refl _ _⟩
  | true =>
  go_wp2_with fail
  refine (sizeRouteArgs_any bo ti v sa sn sc S ta tn tc T _ HS.out HT.out).mono ?_
  rintro e w1 ⟨⟨q, rfl⟩, hb1⟩
  by_cases hq : 1048576 < q
  · go_wp2_with fail
    go_ret
    exact ⟨rfl, hb1⟩
  have e1 : decide (1048576 < q) = false := by simpa using hq
  clear hq
  go_wp2_with fail
  refine (route_any bo ti sa sn sc S ta tn tc T _ (HS.out.later hb1) (HT.out.later hb1)).mono ?_
  rintro e w2 ⟨sa', sc', ta', tc', rfl, hP, hb2⟩
  clear e1
  go_wp2_with fail
  have B2 : Below w.heap.size w w2 := hb1.trans (hb2.mono hb1.size)
  have hW : Below w2.heap.size w2 (w2.alloc (.cells #[.string bo, .string ti, .slice sa' sn sc', .slice ta' tn tc'] 38)) := (Below.refl _ _).alloc (Nat.le_refl _) _
  have hr : (w2.alloc (.cells #[.string bo, .string ti, .slice sa' sn sc', .slice ta' tn tc'] 38)).cell? ⟨w2.heap.size, 3, none⟩ = some (.slice ta' tn tc') := cell_new w2 _ 38 rfl
  have hPW := hP.same (.of_below hW)
  have BW := B2.trans (hW.mono B2.size)
  have HTW := HT.out.later BW
  clear hW hP hb2 hb1 B2 HT HS
  generalize (w2.alloc (.cells #[.string bo, .string ti, .slice sa' sn sc', .slice ta' tn tc'] 38)) = W at *
  refine (zzThreshold_any _ _ _ _ T _ _ hr hPW).mono ?_
  rintro e w' ⟨hf, rfl⟩
  have ha := HTW.here
  obtain ⟨ji, j1, j2⟩ := sizeInfo64
  have heq := fun b o1 o2 w => run_eql_ptr (P := Try.prog) (t := 57) (te := 64) Try.underlying57 j1 j2 b o1 o2 w
  clear HTW j1 j2
  rcases hf with ⟨h1, rfl⟩ | ⟨pb, po, i0, hab, h2, h3, h4, rfl⟩
  · have HN : Hid (∀ i, i < tn → ¬ Among (T i).kn (T i).K v) := h1
    clear h1 hr hPW
    go_wp2_with fail
    go_loop [13, 14] (fun f i => ∃ m : Nat, m ≤ tn ∧ i = .int .i64 ((m : Int) - 1) ∧ f = .int .i64 (-1)) (fun _ i => (intOf i + 1).toNat)
    case atStart => exact ⟨tn, Nat.le_refl _, rfl, rfl⟩
    case round =>
      obtain ⟨m, hm, rfl, rfl⟩ := hrel
      cases m with
      | zero =>
        rw [show ((0 : Nat) : Int) - 1 = -1 from rfl]
        clear ha
        go_wp2_with fail
        go_ret
        exact ⟨rfl, BW⟩
      | succ k =>
        rw [show ((k + 1 : Nat) : Int) - 1 = (k : Int) from by omega]
        obtain ⟨b, o, hao, hbl, hat⟩ := ha (by omega)
        obtain ⟨c0, c1, s0, s1⟩ := hat k (by omega)
        have hno := HN.out k (by omega)
        subst hao
        clear hat c1 s1 ha
        go_wp2_with fail
        refine (listed_no _ _ _ _ _ _ s0 hno).mono ?_
        rintro e w' ⟨rfl, rfl⟩
        go_wp2_with fail
        go_round
        case rel => exact ⟨k, by omega, by go_num, rfl⟩
        case measure => simp [intOf]
  · subst hab
    have HN : Hid (∀ j, j < i0 → ¬ Among (T j).kn (T j).K v) := h4
    have H3 : Hid (Among (T i0).kn (T i0).K v) := h3
    clear h4 h3 hPW
    go_wp2_with fail
    go_loop [13, 14] (fun f i => ∃ (m : Nat) (q : Int), m ≤ tn ∧ i = .int .i64 ((m : Int) - 1) ∧ f = .int .i64 q ∧ (m ≤ i0 → q = (i0 : Int))) (fun _ i => (intOf i + 1).toNat)
    case atStart => exact ⟨tn, -1, Nat.le_refl _, rfl, rfl, fun h => absurd h (by omega)⟩
    case round =>
      obtain ⟨m, q', hm, rfl, rfl, hq⟩ := hrel
      cases m with
      | zero =>
        rw [show ((0 : Nat) : Int) - 1 = -1 from rfl]
        obtain rfl := hq (Nat.zero_le _)
        have z1 : ¬ (i0 : Int) < 0 := by omega
        clear ha
        go_wp2_with fail
        go_ret
        exact ⟨by simp, BW⟩
      | succ k =>
        have HQ : Hid (k + 1 ≤ i0 → q' = (i0 : Int)) := hq
        clear hq
        rw [show ((k + 1 : Nat) : Int) - 1 = (k : Int) from by omega]
        obtain ⟨b, o, hao, hbl, hat⟩ := ha (by omega)
        obtain ⟨c0, c1, s0, s1⟩ := hat k (by omega)
        subst hao
        clear hat c1 s1 ha
        by_cases hin : Among (T k).kn (T k).K v
        · have hki : i0 ≤ k := by
            rcases Nat.lt_or_ge k i0 with h | h
            · exact absurd hin (HN.out k h)
            · exact h
          go_wp2_with fail
          refine (listed_yes _ _ _ _ _ _ s0 hin).mono ?_
          rintro e w' ⟨rfl, rfl⟩
          go_wp2_with fail
          go_round
          case rel => exact ⟨k, _, by omega, by go_num, rfl, fun h => by omega⟩
          case measure => simp [intOf]
        · have hki : k ≠ i0 := fun e => hin (e ▸ H3.out)
          go_wp2_with fail
          refine (listed_no _ _ _ _ _ _ s0 hin).mono ?_
          rintro e w' ⟨rfl, rfl⟩
          go_wp2_with fail
          go_round
          case rel => exact ⟨k, _, by omega, by go_num, rfl, fun h => HQ.out (by omega)⟩
          case measure => simp [intOf]
end Go.Proofs.Qxb6604078a
