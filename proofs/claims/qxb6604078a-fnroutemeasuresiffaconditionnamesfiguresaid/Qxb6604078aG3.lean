import Derived.Test.Qxb6604078aG2
namespace Go.Proofs.Qxb6604078a
open Go.RowKit

theorem cn_max {w : World} {a : Option Addr} {n c : Nat} {T : Nat → ThrV} (h : Thrs w a n c T) : ∀ i, i < n → (T i).cn ≤ 140737488351232 := fun i hi => by
  obtain ⟨b, o, _, _, hat⟩ := h.here (by omega)
  have h1 := (hat i hi).s1.le
  have h2 := (hat i hi).s1.cap
  omega

set_option maxHeartbeats 1000000 in
theorem measures_no {B : Nat} (r : Nat) (a : Option Addr) (n c : Nat) (T : Nat → ThrV) (v : ByteArray) (w : World) (hr : w.cell? ⟨r, 3, none⟩ = some (.slice a n c)) (h : PThrs B w a n T) (hcx : ∀ i, i < n → (T i).cn ≤ 140737488351232) (hv : ¬ Names n T v) :
    Calls Try.prog 35 #[.pointer (some ⟨r, 0, none⟩), .string v] w fun e w' => e = .returned (.bool false) ∧ Below w.heap.size w w' := by
  have hm := h.max
  have HV : Hid (¬ Names n T v) := hv
  clear hv
  have HX : Hid (∀ i, i < n → (T i).cn ≤ 140737488351232) := hcx
  clear hcx
  go_enter Try.func35, Try.ntmps35
  go_wp2
  go_loopw [14] (fun i wr => ∃ (k : Nat), k ≤ n ∧ i = .int .i64 k ∧ Below w.heap.size w wr) (fun i _ => n - (intOf i).toNat)
  case atStart => exact ⟨0, Nat.zero_le _, rfl, Below.refl _ _⟩
  case round =>
    obtain ⟨k, hk, rfl, hb⟩ := hrel
    by_cases hlt : k < n
    · obtain ⟨b, o, hao, _, hcell⟩ := (h.same (.of_below hb)).here (by omega)
      have hck := hcell k hlt
      have hkx := HX.out k hlt
      subst hao
      clear hcell
      obtain ⟨ka, kc, aa, ac, c0, c1, s0, s1⟩ := hck
      go_wp2_with fail
      have hW : Below wr.heap.size wr (wr.alloc (.cells #[.slice ka (T k).kn kc, .slice aa (T k).cn ac] 64)) := (Below.refl _ _).alloc (Nat.le_refl _) _
      have s2 := s1.same (.of_below hW)
      have hb2 := hb.trans (hW.mono hb.size)
      clear s1 s0 hW
      go_loop [21] (fun i => ∃ (j : Nat), j ≤ (T k).cn ∧ i = .int .i64 j) (fun i => (T k).cn - (intOf i).toNat)
      case atStart => exact ⟨0, Nat.zero_le _, rfl⟩
      case round =>
        obtain ⟨j, hj, rfl⟩ := hrel
        by_cases hjlt : j < (T k).cn
        · obtain ⟨ab, ao, haa, _, hpc⟩ := s2 (by omega)
          obtain ⟨p, hp, hpq⟩ := hpc j hjlt
          obtain ⟨_, hplt, oa, oc, hof, hos⟩ := hpq
          subst haa
          clear hpc s2
          have hno : ¬ Among ((T k).C j).on ((T k).C j).O v := fun h => HV.out ⟨k, hlt, j, hjlt, h⟩
          go_wp2_with fail
          refine (containsS_no _ _ _ _ _ _ hos hno).mono ?_
          rintro e w' ⟨rfl, rfl⟩
          go_wp2_with fail
          go_round
          case rel => exact ⟨j + 1, by omega, by go_num⟩
          case measure => simp [intOf]; omega
        · clear s2
          go_wp2_with fail
          go_roundw
          case rel => exact ⟨k + 1, by omega, by go_num, hb2⟩
          case measure => simp [intOf]; omega
    · go_wp2
      go_ret
      exact ⟨rfl, hb⟩

set_option maxHeartbeats 1000000 in
theorem measures_yes {B : Nat} (r : Nat) (a : Option Addr) (n c : Nat) (T : Nat → ThrV) (v : ByteArray) (w : World) (hr : w.cell? ⟨r, 3, none⟩ = some (.slice a n c)) (h : PThrs B w a n T) (hcx : ∀ i, i < n → (T i).cn ≤ 140737488351232) (hv : Names n T v) :
    Calls Try.prog 35 #[.pointer (some ⟨r, 0, none⟩), .string v] w fun e w' => e = .returned (.bool true) ∧ Below w.heap.size w w' := by
  have hm := h.max
  have HV : Hid (Names n T v) := hv
  clear hv
  have HX : Hid (∀ i, i < n → (T i).cn ≤ 140737488351232) := hcx
  clear hcx
  go_enter Try.func35, Try.ntmps35
  go_wp2
  go_loopw [14] (fun i wr => ∃ (k : Nat), k ≤ n ∧ i = .int .i64 k ∧ Below w.heap.size w wr ∧ Hid (∀ i, i < k → ∀ j, j < (T i).cn → ¬ Among ((T i).C j).on ((T i).C j).O v)) (fun i _ => n - (intOf i).toNat)
  case atStart => exact ⟨0, Nat.zero_le _, rfl, Below.refl _ _, fun i hi => absurd hi (Nat.not_lt_zero _)⟩
  case round =>
    obtain ⟨k, hk, rfl, hb, HN⟩ := hrel
    by_cases hlt : k < n
    · obtain ⟨b, o, hao, _, hcell⟩ := (h.same (.of_below hb)).here (by omega)
      have hck := hcell k hlt
      have hkx := HX.out k hlt
      subst hao
      clear hcell
      obtain ⟨ka, kc, aa, ac, c0, c1, s0, s1⟩ := hck
      go_wp2_with fail
      have hW : Below wr.heap.size wr (wr.alloc (.cells #[.slice ka (T k).kn kc, .slice aa (T k).cn ac] 64)) := (Below.refl _ _).alloc (Nat.le_refl _) _
      have s2 := s1.same (.of_below hW)
      have hb2 := hb.trans (hW.mono hb.size)
      clear s1 s0 hW
      go_loop [21] (fun i => ∃ (j : Nat), j ≤ (T k).cn ∧ i = .int .i64 j ∧ Hid (∀ m, m < j → ¬ Among ((T k).C m).on ((T k).C m).O v)) (fun i => (T k).cn - (intOf i).toNat)
      case atStart => exact ⟨0, Nat.zero_le _, rfl, fun m hm => absurd hm (Nat.not_lt_zero _)⟩
      case round =>
        obtain ⟨j, hj, rfl, HM⟩ := hrel
        by_cases hjlt : j < (T k).cn
        · obtain ⟨ab, ao, haa, _, hpc⟩ := s2 (by omega)
          obtain ⟨p, hp, hpq⟩ := hpc j hjlt
          obtain ⟨_, hplt, oa, oc, hof, hos⟩ := hpq
          subst haa
          clear hpc s2
          by_cases hin : Among ((T k).C j).on ((T k).C j).O v
          · go_wp2_with fail
            refine (containsS_yes _ _ _ _ _ _ hos hin).mono ?_
            rintro e w' ⟨rfl, rfl⟩
            go_wp2_with fail
            go_ret
            exact ⟨rfl, hb2⟩
          · go_wp2_with fail
            refine (containsS_no _ _ _ _ _ _ hos hin).mono ?_
            rintro e w' ⟨rfl, rfl⟩
            go_wp2_with fail
            go_round
            case rel => exact ⟨j + 1, by omega, by go_num, fun m hm => by
              by_cases e : m = j
              · rw [e]; exact hin
              · exact HM.out m (by omega)⟩
            case measure => simp [intOf]; omega
        · clear s2
          go_wp2_with fail
          go_roundw
          case rel => exact ⟨k + 1, by omega, by go_num, hb2, fun i hi => by
            by_cases e : i = k
            · rw [e]; exact fun m hm => HM.out m (by omega)
            · exact HN.out i (by omega)⟩
          case measure => simp [intOf]; omega
    · exfalso
      obtain ⟨i, hi, j, hj, ha⟩ := HV.out
      exact HN.out i (by omega) j hj ha

set_option maxHeartbeats 400000 in
theorem zzMeasures_no {B : Nat} (r : Nat) (a : Option Addr) (n c : Nat) (T : Nat → ThrV) (v : ByteArray) (w : World) (hr : w.cell? ⟨r, 3, none⟩ = some (.slice a n c)) (h : PThrs B w a n T) (hcx : ∀ i, i < n → (T i).cn ≤ 140737488351232) (hv : ¬ Names n T v) :
    Calls Try.prog 18 #[.pointer (some ⟨r, 0, none⟩), .string v] w fun e w' => e = .returned (.bool false) ∧ Below w.heap.size w w' := by
  go_enter Try.func18, Try.ntmps18
  go_wp2_with fail
  refine (measures_no r a n c T v _ hr h hcx hv).mono ?_
  rintro e w1 ⟨rfl, hb⟩
  clear h hcx hv
  go_wp2
  go_ret
  exact ⟨rfl, hb⟩

set_option maxHeartbeats 400000 in
theorem zzMeasures_yes {B : Nat} (r : Nat) (a : Option Addr) (n c : Nat) (T : Nat → ThrV) (v : ByteArray) (w : World) (hr : w.cell? ⟨r, 3, none⟩ = some (.slice a n c)) (h : PThrs B w a n T) (hcx : ∀ i, i < n → (T i).cn ≤ 140737488351232) (hv : Names n T v) :
    Calls Try.prog 18 #[.pointer (some ⟨r, 0, none⟩), .string v] w fun e w' => e = .returned (.bool true) ∧ Below w.heap.size w w' := by
  go_enter Try.func18, Try.ntmps18
  go_wp2_with fail
  refine (measures_yes r a n c T v _ hr h hcx hv).mono ?_
  rintro e w1 ⟨rfl, hb⟩
  clear h hcx hv
  go_wp2
  go_ret
  exact ⟨rfl, hb⟩
end Go.Proofs.Qxb6604078a
