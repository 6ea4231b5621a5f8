import Derived.Test.Qxb6604078aB4
import Derived.Test.Qxb6604078aF4
import Derived.Test.Qxb6604078aG
import Derived.Test.Qxb6604078aC8
namespace Go.Proofs.Qxb6604078a
open Go.RowKit

set_option maxHeartbeats 1000000 in
theorem routeM3_any {B : Nat} (r : Nat) (a : Option Addr) (n c : Nat) (R : Nat → RouteV) (v : ByteArray) (w : World) (hr : w.cell? ⟨r, 3, none⟩ = some (.slice a n c)) (h : PRts B w a n R) :
    Calls Try.prog 11 #[.pointer (some ⟨r, 0, none⟩), .string v] w fun e w' => RetRoute1 a n R v e ∧ w = w' := by
  have hm := h.max
  have ha := h.here
  clear h
  go_enter Try.func11, Try.ntmps11
  go_wp2
  go_loop [11] (fun i => ∃ (k : Nat), k ≤ n ∧ i = .int .i64 k ∧ ∀ j, j < k → ¬ (R j).bo = v) (fun i => n - (intOf i).toNat)
  case atStart => exact ⟨0, Nat.zero_le _, rfl, fun j hj => absurd hj (Nat.not_lt_zero _)⟩
  case round =>
    obtain ⟨k, hk, rfl, hno⟩ := hrel
    have HN : Hid (∀ j, j < k → ¬ (R j).bo = v) := hno
    clear hno
    by_cases hlt : k < n
    · obtain ⟨b, o, hao, _, hcell⟩ := ha (by omega)
      have hck := hcell k hlt
      subst hao
      clear hcell ha
      by_cases hs : (R k).bo = v
      · have hne : ((R k).bo.toList == v.toList) = true := beq_yes hs
        have HS : Hid ((R k).bo = v) := hs
        clear hs
        go_wp2
        go_ret
        exact ⟨.inr ⟨b, o, k, rfl, hlt, HS.out, HN.out, rfl⟩, rfl⟩
      · have hne : ((R k).bo.toList == v.toList) = false := beq_no hs
        have HS : Hid (¬ (R k).bo = v) := hs
        clear hs
        go_wp2
        go_round
        case rel => exact ⟨k + 1, by omega, by go_num, fun j hj => by
          by_cases e : j = k
          · rw [e]; exact HS.out
          · exact HN.out j (by omega)⟩
        case measure => simp [intOf]; omega
    · go_wp2
      go_ret
      exact ⟨.inl ⟨fun i hi => HN.out i (by omega), rfl⟩, rfl⟩

theorem sizeOf38 : ∃ j, Try.prog.info? 38 = some j ∧ j.size ≠ 0 := by
  obtain ⟨j, h1, h2⟩ := Option.map_eq_some_iff.1 info38
  simp only [Prod.mk.injEq] at h2
  exact ⟨j, h1, by rw [h2.2.1]; decide⟩

set_option maxHeartbeats 2000000 in
theorem law3_any (nm ti v : ByteArray) (da : Option Addr) (dn dc : Nat) (D : Nat → TwoV) (ra : Option Addr) (rn rc : Nat) (R : Nat → RouteV) (bv : Option Addr) (w : World) (hD : Twos w da dn dc D) (hR : Rts w ra rn rc R) (hbv : BV w bv) :
    Calls Try.prog 3 #[.string nm, .string ti, .slice da dn dc, .slice ra rn rc, .pointer bv, .string v] w fun e w' => e = .returned (.bool true) ∧ Below w.heap.size w w' := by
  have g1 := hR.le
  have g2 := hR.cap
  have HD : Hid (Twos w da dn dc D) := hD
  have HR : Hid (Rts w ra rn rc R) := hR
  have HB : Hid (BV w bv) := hbv
  clear hD hR hbv
  go_enter Try.func3, Try.ntmps3
  go_wp2_with fail
  refine (bytes8_any nm ti v da dn dc D ra rn rc R bv _ HD.out HR.out HB.out).mono ?_
  rintro e w' ⟨⟨r, rfl⟩, rfl⟩
  cases r with
  | false =>
    go_wp2_with fail
    go_ret
    exact ⟨rfl, Below.refl _ _⟩
  | true =>
  go_wp2_with fail
  refine (sizeProfileArgs_any nm ti v da dn dc D ra rn rc R bv _ HD.out HR.out HB.out).mono ?_
  rintro e w1 ⟨⟨q, rfl⟩, hb1⟩
  by_cases hq : 1048576 < q
  · go_wp2_with fail
    go_ret
    exact ⟨rfl, hb1⟩
  have e1 : decide (1048576 < q) = false := by simpa using hq
  clear hq
  go_wp2_with fail
  refine (profile_any nm ti da dn dc D ra rn rc R bv _ (HD.out.later hb1) (HR.out.later hb1) (HB.out.later hb1)).mono ?_
  rintro e W ⟨p, ra', rc', rfl, hr, hPW, hb2⟩
  clear e1
  have BW : Below w.heap.size w W := hb1.trans (hb2.mono hb1.size)
  have HRW := HR.out.later BW
  clear hb2 hb1 HD HR HB
  go_wp2_with fail
  refine (routeM3_any _ _ _ _ R _ _ hr hPW).mono ?_
  rintro e w' ⟨hf, rfl⟩
  have ha := HRW.here
  obtain ⟨ji, j1, j2⟩ := sizeOf38
  have heq := fun b o1 o2 w => run_eql_ptr (P := Try.prog) (t := 29) (te := 38) Try.underlying29 j1 j2 b o1 o2 w
  clear HRW j1 j2
  rcases hf with ⟨h1, rfl⟩ | ⟨pb, po, i0, hab, h2, h3, h4, rfl⟩
  · have HN : Hid (∀ i, i < rn → ¬ (R i).bo = v) := h1
    clear h1 hr hPW
    go_wp2_with fail
    go_loop [15, 16] (fun f i => ∃ m : Nat, m ≤ rn ∧ i = .int .i64 ((m : Int) - 1) ∧ f = .int .i64 (-1)) (fun _ i => (intOf i + 1).toNat)
    case atStart => exact ⟨rn, Nat.le_refl _, rfl, rfl⟩
    case round =>
      obtain ⟨m, hm, rfl, rfl⟩ := hrel
      cases m with
      | zero =>
        rw [show ((0 : Nat) : Int) - 1 = -1 from rfl]
        clear ha
        go_wp2_with fail
        go_ret
        exact ⟨rfl, BW⟩
      | succ k =>
        rw [show ((k + 1 : Nat) : Int) - 1 = (k : Int) from by omega]
        obtain ⟨b, o, hao, hbl, hat⟩ := ha (by omega)
        have c0 := (hat k (by omega)).c0
        have hno : ((R k).bo.toList == v.toList) = false := beq_no (HN.out k (by omega))
        subst hao
        clear hat ha
        go_wp2_with fail
        go_round
        case rel => exact ⟨k, by omega, by go_num, rfl⟩
        case measure => simp [intOf]
  · subst hab
    have HN : Hid (∀ j, j < i0 → ¬ (R j).bo = v) := h4
    have H3 : Hid ((R i0).bo = v) := h3
    clear h4 h3 hPW
    go_wp2_with fail
    go_loop [15, 16] (fun f i => ∃ (m : Nat) (q : Int), m ≤ rn ∧ i = .int .i64 ((m : Int) - 1) ∧ f = .int .i64 q ∧ (m ≤ i0 → q = (i0 : Int))) (fun _ i => (intOf i + 1).toNat)
    case atStart => exact ⟨rn, -1, Nat.le_refl _, rfl, rfl, fun h => absurd h (by omega)⟩
    case round =>
      obtain ⟨m, q', hm, rfl, rfl, hq⟩ := hrel
      cases m with
      | zero =>
        rw [show ((0 : Nat) : Int) - 1 = -1 from rfl]
        obtain rfl := hq (Nat.zero_le _)
        have z1 : ¬ (i0 : Int) < 0 := by omega
        clear ha
        go_wp2_with fail
        go_ret
        exact ⟨by simp, BW⟩
      | succ k =>
        have HQ : Hid (k + 1 ≤ i0 → q' = (i0 : Int)) := hq
        clear hq
        rw [show ((k + 1 : Nat) : Int) - 1 = (k : Int) from by omega]
        obtain ⟨b, o, hao, hbl, hat⟩ := ha (by omega)
        have c0 := (hat k (by omega)).c0
        subst hao
        clear hat ha
        by_cases hin : (R k).bo = v
        · have hki : i0 ≤ k := by
            rcases Nat.lt_or_ge k i0 with h | h
            · exact absurd hin (HN.out k h)
            · exact h
          have hyes : ((R k).bo.toList == v.toList) = true := beq_yes hin
          clear hin
          go_wp2_with fail
          go_round
          case rel => exact ⟨k, _, by omega, by go_num, rfl, fun h => by omega⟩
          case measure => simp [intOf]
        · have hki : k ≠ i0 := fun e => hin (e ▸ H3.out)
          have hno : ((R k).bo.toList == v.toList) = false := beq_no hin
          clear hin
          go_wp2_with fail
          go_round
          case rel => exact ⟨k, _, by omega, by go_num, rfl, fun h => HQ.out (by omega)⟩
          case measure => simp [intOf]
end Go.Proofs.Qxb6604078a
