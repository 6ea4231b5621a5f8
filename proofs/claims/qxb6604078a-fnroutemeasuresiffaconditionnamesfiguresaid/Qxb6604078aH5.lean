import Derived.Test.Qxb6604078aG3
import Derived.Test.Qxb6604078aC15
namespace Go.Proofs.Qxb6604078a
open Go.RowKit

/-! ### The count of the names, from the end on -/

structure P1 (T : Nat → ThrV) (tn i : Nat) (m : Nat) (q : Int) : Prop where
  lo : 0 ≤ q
  hi : q + (thrSum T m : Nat) ≤ (thrSum T tn : Nat)
  ps : m ≤ i → 1 ≤ q
structure P2 (T : Nat → ThrV) (tn i j : Nat) (k m : Nat) (q : Int) : Prop where
  lo : 0 ≤ q
  hi : q + (thrSum T k : Nat) + (ofSum (T k).C m : Nat) ≤ (thrSum T tn : Nat)
  ps : (k < i ∨ (k = i ∧ m ≤ j)) → 1 ≤ q
structure P3 (T : Nat → ThrV) (tn i j p : Nat) (k m r : Nat) (q : Int) : Prop where
  lo : 0 ≤ q
  hi : q + (thrSum T k : Nat) + (ofSum (T k).C m : Nat) + (r : Int) ≤ (thrSum T tn : Nat)
  ps : (k < i ∨ (k = i ∧ (m < j ∨ (m = j ∧ r ≤ p)))) → 1 ≤ q

theorem P1.down {T : Nat → ThrV} {tn i j k : Nat} {q : Int} (h : P1 T tn i (k + 1) q) (hj : j < (T i).cn) : P2 T tn i j k (T k).cn q := by
  have e : thrSum T (k + 1) = thrSum T k + ofSum (T k).C (T k).cn := rfl
  refine ⟨h.lo, by have := h.hi; rw [e] at this; omega, fun c => h.ps ?_⟩
  rcases c with c | ⟨c, d⟩
  · omega
  · subst c; omega
theorem P2.up {T : Nat → ThrV} {tn i j k : Nat} {q : Int} (h : P2 T tn i j k 0 q) : P1 T tn i k q := by
  have e : ofSum (T k).C 0 = 0 := rfl
  exact ⟨h.lo, by have := h.hi; rw [e] at this; omega, fun c => h.ps (by omega)⟩
theorem P2.down {T : Nat → ThrV} {tn i j p k m : Nat} {q : Int} (h : P2 T tn i j k (m + 1) q) (hp : p < ((T i).C j).on) : P3 T tn i j p k m ((T k).C m).on q := by
  have e : ofSum (T k).C (m + 1) = ofSum (T k).C m + ((T k).C m).on := rfl
  refine ⟨h.lo, by have := h.hi; rw [e] at this; omega, fun c => h.ps ?_⟩
  rcases c with c | ⟨c, d | ⟨d, f⟩⟩
  · exact .inl c
  · exact .inr ⟨c, d⟩
  · subst c; subst d; omega
theorem P3.up {T : Nat → ThrV} {tn i j p k m : Nat} {q : Int} (h : P3 T tn i j p k m 0 q) : P2 T tn i j k m q :=
  ⟨h.lo, by have := h.hi; omega, fun c => h.ps (by omega)⟩
theorem P3.hit {T : Nat → ThrV} {tn i j p k m r : Nat} {q : Int} (h : P3 T tn i j p k m (r + 1) q) : P3 T tn i j p k m r (q + 1) :=
  ⟨by have := h.lo; omega, by have := h.hi; omega, fun _ => by have := h.lo; omega⟩
theorem P3.miss {T : Nat → ThrV} {tn i j p k m r : Nat} {q : Int} (h : P3 T tn i j p k m (r + 1) q) (hne : ¬ (k = i ∧ m = j ∧ r = p)) : P3 T tn i j p k m r q :=
  ⟨h.lo, by have := h.hi; omega, fun c => h.ps (by omega)⟩
theorem P1.top {T : Nat → ThrV} {tn i : Nat} (h : i < tn) : P1 T tn i tn 0 := ⟨by omega, by omega, fun c => by omega⟩

set_option maxHeartbeats 2000000 in
theorem law5_any (bo ti v : ByteArray) (sa : Option Addr) (sn sc : Nat) (S : Nat → TwoV) (ta : Option Addr) (tn tc : Nat) (T : Nat → ThrV) (w : World) (hS : Twos w sa sn sc S) (hT : Thrs w ta tn tc T) :
    Calls Try.prog 5 #[.string bo, .string ti, .slice sa sn sc, .slice ta tn tc, .string v] w fun e w' => e = .returned (.bool true) ∧ Below w.heap.size w w' := by
  have g1 := hT.le
  have g2 := hT.cap
  have HS : Hid (Twos w sa sn sc S) := hS
  have HT : Hid (Thrs w ta tn tc T) := hT
  clear hS hT
  go_enter Try.func5, Try.ntmps5
  go_wp2_with fail
  refine (bytes15_any bo ti v sa sn sc S ta tn tc T _ HS.out HT.out).mono ?_
  rintro e w' ⟨⟨r, rfl, hcnt⟩, rfl⟩
  cases r with
  | false =>
    clear hcnt
    go_wp2_with fail
    go_ret
    exact ⟨rfl, Below.refl _ _⟩
  | true =>
  have HC : Hid (thrSum T tn ≤ 1048576) := hcnt rfl
  clear hcnt
  go_wp2_with fail
  refine (sizeRouteArgs_any bo ti v sa sn sc S ta tn tc T _ HS.out HT.out).mono ?_
  rintro e w1 ⟨⟨q, rfl⟩, hb1⟩
  by_cases hq : 1048576 < q
  · go_wp2_with fail
    go_ret
    exact ⟨rfl, hb1⟩
  have e1 : decide (1048576 < q) = false := by simpa using hq
  clear hq
  go_wp2_with fail
  refine (route_any bo ti sa sn sc S ta tn tc T _ (HS.out.later hb1) (HT.out.later hb1)).mono ?_
  rintro e w2 ⟨sa', sc', ta', tc', rfl, hP, hb2⟩
  clear e1
  go_wp2_with fail
  have B2 : Below w.heap.size w w2 := hb1.trans (hb2.mono hb1.size)
  have hW : Below w2.heap.size w2 (w2.alloc (.cells #[.string bo, .string ti, .slice sa' sn sc', .slice ta' tn tc'] 38)) := (Below.refl _ _).alloc (Nat.le_refl _) _
  have hr : (w2.alloc (.cells #[.string bo, .string ti, .slice sa' sn sc', .slice ta' tn tc'] 38)).cell? ⟨w2.heap.size, 3, none⟩ = some (.slice ta' tn tc') := cell_new w2 _ 38 rfl
  have hPW := hP.same (.of_below hW)
  have BW := B2.trans (hW.mono B2.size)
  have hcx := cn_max HT.out
  by_cases hnm : Names tn T v
  · refine (zzMeasures_yes _ _ _ _ T _ _ hr hPW hcx hnm).mono ?_
    rintro e W ⟨rfl, hb3⟩
    have BW' := BW.trans (hb3.mono BW.size)
    have HTW := HT.out.later BW'
    have ha := HTW.here
    clear hW hP hb2 hb1 B2 HT HS hr hPW BW hb3 HTW hcx
    obtain ⟨is, his, js, hjs, ps, hps, hpe⟩ := hnm
    have HE : Hid (((T is).C js).O ps = v) := hpe
    clear hpe
    go_wp2_with fail
    go_loop [13, 14] (fun f i => ∃ (m : Nat) (q : Int), m ≤ tn ∧ i = .int .i64 ((m : Int) - 1) ∧ f = .int .i64 q ∧ P1 T tn is m q) (fun _ i => (intOf i + 1).toNat)
    case atStart => exact ⟨tn, 0, Nat.le_refl _, rfl, rfl, P1.top his⟩
    case round =>
      obtain ⟨m, q', hm, rfl, rfl, hq⟩ := hrel
      cases m with
      | zero =>
        rw [show ((0 : Nat) : Int) - 1 = -1 from rfl]
        have hq1 := hq.ps (Nat.zero_le _)
        have hq2 : (0 : Int) < q' := by omega
        clear ha hq hq1
        go_wp2_with fail
        go_ret
        exact ⟨rfl, BW'⟩
      | succ k =>
        rw [show ((k + 1 : Nat) : Int) - 1 = (k : Int) from by omega]
        obtain ⟨b, o, hao, hbl, hat⟩ := ha (by omega)
        obtain ⟨c0, c1, s0, s1⟩ := hat k (by omega)
        subst hao
        clear hat c0 s0 ha
        have hz1 := s1.le
        have hz2 := s1.cap
        have s1h := s1.here
        clear s1
        generalize (T k).ca = ca at c1 s1h
        have hd := hq.down hjs
        clear hq
        go_wp2_with fail
        go_loop [13, 15] (fun f i => ∃ (m : Nat) (q : Int), m ≤ (T k).cn ∧ i = .int .i64 ((m : Int) - 1) ∧ f = .int .i64 q ∧ P2 T tn is js k m q) (fun _ i => (intOf i + 1).toNat)
        case atStart => exact ⟨(T k).cn, _, Nat.le_refl _, rfl, rfl, hd⟩
        case round =>
          clear hd
          obtain ⟨m, q2, hm2, rfl, rfl, hq2⟩ := hrel
          cases m with
          | zero =>
            rw [show ((0 : Nat) : Int) - 1 = -1 from rfl]
            clear s1h
            go_wp2_with fail
            go_round
            case rel => exact ⟨k, _, by omega, by go_num, rfl, hq2.up⟩
            case measure => simp [intOf]
          | succ j =>
            rw [show ((j + 1 : Nat) : Int) - 1 = (j : Int) from by omega]
            obtain ⟨b2, o2, hao2, hbl2, hat2⟩ := s1h (by omega)
            obtain ⟨-, -, x2, -, -, -, y2, -⟩ := hat2 j (by omega)
            subst hao2
            clear hat2 s1h
            have hz3 := y2.le
            have hz4 := y2.cap
            have y2h := y2.here
            clear y2
            generalize ((T k).C j).oa = oa at x2 y2h
            have hd2 := hq2.down hps
            clear hq2
            go_wp2_with fail
            go_loop [13, 16] (fun f i => ∃ (m : Nat) (q : Int), m ≤ ((T k).C j).on ∧ i = .int .i64 ((m : Int) - 1) ∧ f = .int .i64 q ∧ P3 T tn is js ps k j m q) (fun _ i => (intOf i + 1).toNat)
            case atStart => exact ⟨((T k).C j).on, _, Nat.le_refl _, rfl, rfl, hd2⟩
            case round =>
              clear hd2
              obtain ⟨m, q3, hm3, rfl, rfl, hq3⟩ := hrel
              cases m with
              | zero =>
                rw [show ((0 : Nat) : Int) - 1 = -1 from rfl]
                clear y2h
                go_wp2_with fail
                go_round
                case rel => exact ⟨j, _, by omega, by go_num, rfl, hq3.up⟩
                case measure => simp [intOf]
              | succ p =>
                rw [show ((p + 1 : Nat) : Int) - 1 = (p : Int) from by omega]
                obtain ⟨b3, o3, hao3, _, hat3⟩ := y2h (by omega)
                have hcp := hat3 p (by omega)
                subst hao3
                clear hat3 y2h
                have l1 := hq3.lo
                have l2 : q3 ≤ 1048576 := by have := hq3.hi; have := HC.out; omega
                by_cases hs : ((T k).C j).O p = v
                · have hne : (((T k).C j).O p).toList == v.toList := beq_yes hs
                  clear hs
                  go_wp2_with fail
                  go_round
                  case rel => exact ⟨p, _, by omega, by go_num, rfl, hq3.hit⟩
                  case measure => simp [intOf]
                · have hne : ((((T k).C j).O p).toList == v.toList) = false := beq_no hs
                  have hms : ¬ (k = is ∧ j = js ∧ p = ps) := by
                    rintro ⟨rfl, rfl, rfl⟩
                    exact hs HE.out
                  have hq4 := hq3.miss hms
                  clear hs hms
                  go_wp2_with fail
                  go_round
                  case rel => exact ⟨p, _, by omega, by go_num, rfl, hq4⟩
                  case measure => simp [intOf]
  · refine (zzMeasures_no _ _ _ _ T _ _ hr hPW hcx hnm).mono ?_
    rintro e W ⟨rfl, hb3⟩
    have BW' := BW.trans (hb3.mono BW.size)
    have HTW := HT.out.later BW'
    have ha := HTW.here
    clear hW hP hb2 hb1 B2 HT HS hr hPW BW hb3 HTW hcx HC
    have HN : Hid (¬ Names tn T v) := hnm
    clear hnm
    go_wp2_with fail
    go_loop [13, 14] (fun f i => ∃ (m : Nat), m ≤ tn ∧ i = .int .i64 ((m : Int) - 1) ∧ f = .int .i64 0) (fun _ i => (intOf i + 1).toNat)
    case atStart => exact ⟨tn, Nat.le_refl _, rfl, rfl⟩
    case round =>
      obtain ⟨m, hm, rfl, rfl⟩ := hrel
      cases m with
      | zero =>
        rw [show ((0 : Nat) : Int) - 1 = -1 from rfl]
        clear ha
        go_wp2_with fail
        go_ret
        exact ⟨rfl, BW'⟩
      | succ k =>
        rw [show ((k + 1 : Nat) : Int) - 1 = (k : Int) from by omega]
        obtain ⟨b, o, hao, hbl, hat⟩ := ha (by omega)
        obtain ⟨c0, c1, s0, s1⟩ := hat k (by omega)
        subst hao
        clear hat c0 s0 ha
        have hz1 := s1.le
        have hz2 := s1.cap
        have s1h := s1.here
        clear s1
        generalize (T k).ca = ca at c1 s1h
        go_wp2_with fail
        go_loop [13, 15] (fun f i => ∃ (m : Nat), m ≤ (T k).cn ∧ i = .int .i64 ((m : Int) - 1) ∧ f = .int .i64 0) (fun _ i => (intOf i + 1).toNat)
        case atStart => exact ⟨(T k).cn, Nat.le_refl _, rfl, rfl⟩
        case round =>
          obtain ⟨m, hm2, rfl, rfl⟩ := hrel
          cases m with
          | zero =>
            rw [show ((0 : Nat) : Int) - 1 = -1 from rfl]
            clear s1h
            go_wp2_with fail
            go_round
            case rel => exact ⟨k, by omega, by go_num, rfl⟩
            case measure => simp [intOf]
          | succ j =>
            rw [show ((j + 1 : Nat) : Int) - 1 = (j : Int) from by omega]
            obtain ⟨b2, o2, hao2, hbl2, hat2⟩ := s1h (by omega)
            obtain ⟨-, -, x2, -, -, -, y2, -⟩ := hat2 j (by omega)
            subst hao2
            clear hat2 s1h
            have hz3 := y2.le
            have hz4 := y2.cap
            have y2h := y2.here
            clear y2
            generalize ((T k).C j).oa = oa at x2 y2h
            go_wp2_with fail
            go_loop [13, 16] (fun f i => ∃ (m : Nat), m ≤ ((T k).C j).on ∧ i = .int .i64 ((m : Int) - 1) ∧ f = .int .i64 0) (fun _ i => (intOf i + 1).toNat)
            case atStart => exact ⟨((T k).C j).on, Nat.le_refl _, rfl, rfl⟩
            case round =>
              obtain ⟨m, hm3, rfl, rfl⟩ := hrel
              cases m with
              | zero =>
                rw [show ((0 : Nat) : Int) - 1 = -1 from rfl]
                clear y2h
                go_wp2_with fail
                go_round
                case rel => exact ⟨j, by omega, by go_num, rfl⟩
                case measure => simp [intOf]
              | succ p =>
                rw [show ((p + 1 : Nat) : Int) - 1 = (p : Int) from by omega]
                obtain ⟨b3, o3, hao3, _, hat3⟩ := y2h (by omega)
                have hcp := hat3 p (by omega)
                subst hao3
                clear hat3 y2h
                have hne : ((((T k).C j).O p).toList == v.toList) = false := beq_no (fun e => HN.out ⟨k, by omega, j, by omega, p, by omega, e⟩)
                go_wp2_with fail
                go_round
                case rel => exact ⟨p, by omega, by go_num, rfl⟩
                case measure => simp [intOf]
end Go.Proofs.Qxb6604078a
