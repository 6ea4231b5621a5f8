import Derived.Test.Qxb6604078aB3
import Derived.Test.Qxb6604078aF3
import Derived.Test.Qxb6604078aG
import Derived.Test.Qxb6604078aC12
namespace Go.Proofs.Qxb6604078a
open Go.RowKit

set_option maxHeartbeats 1000000 in
theorem routeM_any {B : Nat} (r : Nat) (a : Option Addr) (n c : Nat) (R : Nat → RouteV) (v : ByteArray) (w : World) (hr : w.cell? ⟨r, 3, none⟩ = some (.slice a n c)) (h : PRts B w a n R) :
    Calls Try.prog 11 #[.pointer (some ⟨r, 0, none⟩), .string v] w fun e w' => RetRoute1 a n R v e ∧ w = w' := by
  have hm := h.max
  have ha := h.here
  clear h
  go_enter Try.func11, Try.ntmps11
  go_wp2
  go_loop [11] (fun i => ∃ (k : Nat), k ≤ n ∧ i = .int .i64 k ∧ ∀ j, j < k → ¬ (R j).bo = v) (fun i => n - (intOf i).toNat)
  case atStart => exact ⟨0, Nat.zero_le _, rfl, fun j hj => absurd hj (Nat.not_lt_zero _)⟩
  case round =>
    obtain ⟨k, hk, rfl, hno⟩ := hrel
    have HN : Hid (∀ j, j < k → ¬ (R j).bo = v) := hno
    clear hno
    by_cases hlt : k < n
    · obtain ⟨b, o, hao, _, hcell⟩ := ha (by omega)
      have hck := hcell k hlt
      subst hao
      clear hcell ha
      by_cases hs : (R k).bo = v
      · have hne : ((R k).bo.toList == v.toList) = true := beq_yes hs
        have HS : Hid ((R k).bo = v) := hs
        clear hs
        go_wp2
        go_ret
        exact ⟨.inr ⟨b, o, k, rfl, hlt, HS.out, HN.out, rfl⟩, rfl⟩
      · have hne : ((R k).bo.toList == v.toList) = false := beq_no hs
        have HS : Hid (¬ (R k).bo = v) := hs
        clear hs
        go_wp2
        go_round
        case rel => exact ⟨k + 1, by omega, by go_num, fun j hj => by
          by_cases e : j = k
          · rw [e]; exact HS.out
          · exact HN.out j (by omega)⟩
        case measure => simp [intOf]; omega
    · go_wp2
      go_ret
      exact ⟨.inl ⟨fun i hi => HN.out i (by omega), rfl⟩, rfl⟩

theorem sizeInfo38 : ∃ j, Try.prog.info? 38 = some j ∧ j.size ≠ 0 := by
  obtain ⟨j, h1, h2⟩ := Option.map_eq_some_iff.1 info38
  simp only [Prod.mk.injEq] at h2
  exact ⟨j, h1, by rw [h2.2.1]; decide⟩

theorem run_neq_ptr {P : Program} {t te : TypeId} {j : TypeInfo} (hp : P.underlying t = some (.pointer te)) (hte : P.info? te = some j) (hsz : j.size ≠ 0) (b o1 o2 : Nat) (w : World) :
    (binOp .neq t (.pointer (some ⟨b, o1, none⟩)) (.pointer (some ⟨b, o2, none⟩))).run P w = .ok (.bool (!decide (o1 = o2))) w := by
  have h : ∀ d : Nat, (Op.equalIn (d + 1) t (.pointer (some ⟨b, o1, none⟩)) (.pointer (some ⟨b, o2, none⟩))).run P w = .ok (decide (o1 = o2)) w := fun d => by
    by_cases e : o1 = o2
    · subst e
      simp [Op.equalIn, run_underlying hp, typeInfo, sizeOf, run_sameAddr_same, hte]
    · simp [Op.equalIn, run_underlying hp, typeInfo, sizeOf, hte, hsz, sameAddr, e]
  simp only [binOp]
  simp [Op.equal, Op.maxDepth, h 9999]

/-- What holds at each round's head of law 4. -/
structure Lv4 (B : Nat) (w wr : World) (r : Nat) (a : Option Addr) (n c : Nat) (a2 : Option Addr) (c2 : Nat) (R : Nat → RouteV) : Prop where
  rt : wr.cell? ⟨r, 3, none⟩ = some (.slice a2 n c2)
  pr : PRts B wr a2 n R
  ar : Rts wr a n c R
  be : Below w.heap.size w wr

theorem Lv4.drew {B : Nat} {w wr : World} {r : Nat} {a : Option Addr} {n c : Nat} {a2 : Option Addr} {c2 : Nat} {R : Nat → RouteV} (h : Lv4 B w wr r a n c a2 c2 R) : Lv4 B w wr.drew r a n c a2 c2 R :=
  ⟨h.rt, h.pr.same (.of_below (Below.refl _ _).drew), h.ar.later (Below.refl _ _).drew, h.be.drew⟩

theorem firstR_le {R : Nat → RouteV} {v : ByteArray} {i k : Nat} (hk : (R k).bo = v) (hno : ∀ j, j < i → ¬ (R j).bo = v) : i ≤ k := by
  rcases Nat.lt_or_ge k i with h | h
  · exact absurd hk (hno k h)
  · exact h

theorem firstR_eq {R : Nat → RouteV} {v : ByteArray} {i k : Nat} (hi : (R i).bo = v) (hk : (R k).bo = v) (hni : ∀ j, j < i → ¬ (R j).bo = v) (hnk : ∀ j, j < k → ¬ (R j).bo = v) : i = k :=
  Nat.le_antisymm (firstR_le hk hni) (firstR_le hi hnk)

set_option maxHeartbeats 2000000 in
theorem law4_any (a : Option Addr) (n c : Nat) (R : Nat → RouteV) (w : World) (h : Rts w a n c R) :
    Calls Try.prog 4 #[.slice a n c] w fun e w' => e = .returned (.bool true) ∧ Below w.heap.size w w' := by
  have g1 := h.le
  have g2 := h.cap
  have HT : Hid (Rts w a n c R) := h
  clear h
  go_enter Try.func4, Try.ntmps4
  go_wp2_with fail
  refine (bytes12_any _ _ _ R _ HT.out).mono ?_
  rintro e w' ⟨⟨r, rfl⟩, rfl⟩
  cases r with
  | false =>
    go_wp2_with fail
    go_ret
    exact ⟨rfl, Below.refl _ _⟩
  | true =>
  go_wp2_with fail
  refine (sizeRoutes_any _ _ _ _ R _ HT.out).mono ?_
  rintro e w1 ⟨⟨q, rfl⟩, hb1⟩
  by_cases hq : 1048576 < q
  · go_wp2_with fail
    go_ret
    exact ⟨rfl, hb1⟩
  by_cases hn : 4096 < n
  · have hn' : (4096 : Int) < (n : Int) := by omega
    go_wp2_with fail
    go_ret
    exact ⟨rfl, hb1⟩
  have e1 : decide (1048576 < q) = false := by simpa using hq
  have e2 : decide ((4096 : Int) < (n : Int)) = false := by simp; omega
  clear hq hn
  go_wp2_with fail
  refine (routes_any _ _ _ R _ (HT.out.later hb1)).mono ?_
  rintro e w2 ⟨a2, c2, rfl, hP, hb2⟩
  clear e1 e2
  go_wp2_with fail
  have B2 : Below w.heap.size w w2 := hb1.trans (hb2.mono hb1.size)
  have hW : Below w2.heap.size w2 (w2.alloc (.cells #[.string ⟨#[]⟩, .string ⟨#[]⟩, .slice none 0 0, .slice a2 n c2, .pointer none] 43)) := (Below.refl _ _).alloc (Nat.le_refl _) _
  have hr : (w2.alloc (.cells #[.string ⟨#[]⟩, .string ⟨#[]⟩, .slice none 0 0, .slice a2 n c2, .pointer none] 43)).cell? ⟨w2.heap.size, 3, none⟩ = some (.slice a2 n c2) := cell_new w2 _ 43 rfl
  have hPW := hP.same (.of_below hW)
  have BW := B2.trans (hW.mono B2.size)
  have HTW := HT.out.later BW
  clear hW hP hb2 hb1 B2 HT
  have HL : Lv4 w1.heap.size w (w2.alloc (.cells #[.string ⟨#[]⟩, .string ⟨#[]⟩, .slice none 0 0, .slice a2 n c2, .pointer none] 43)) w2.heap.size a n c a2 c2 R := ⟨hr, hPW, HTW, BW⟩
  clear hr hPW HTW BW
  obtain ⟨ji, j1, j2⟩ := sizeInfo38
  have heq := fun b o1 o2 w => run_eql_ptr (P := Try.prog) (t := 29) (te := 38) Try.underlying29 j1 j2 b o1 o2 w
  have hneq := fun b o1 o2 w => run_neq_ptr (P := Try.prog) (t := 29) (te := 38) Try.underlying29 j1 j2 b o1 o2 w
  clear j1 j2
  go_loopw [4] (fun i wr => ∃ k : Nat, k ≤ n ∧ i = .int .i64 k ∧ Lv4 w1.heap.size w wr w2.heap.size a n c a2 c2 R) (fun i _ => n - (intOf i).toNat)
  case atStart => exact ⟨0, Nat.zero_le _, rfl, HL⟩
  case round =>
    clear HL
    obtain ⟨k, hk, rfl, HL⟩ := hrel
    by_cases hlt : k < n
    · obtain ⟨b, o, hao, hbl, hat⟩ := HL.ar.here (by omega)
      have c0 := (hat k hlt).c0
      obtain ⟨pb, po, hpa, hpl, hpat⟩ := HL.pr.here (by omega)
      have hr := HL.rt
      subst hao
      subst hpa
      clear hat
      have hlt' : (k : Int) < (n : Int) := by omega
      have hk0 : (0 : Int) ≤ (k : Int) := by omega
      go_wp2_with fail
      refine (routeM_any _ _ _ _ R _ _ hr HL.pr).mono ?_
      rintro e w' ⟨hf, rfl⟩
      rcases hf with ⟨h1, -⟩ | ⟨b', o', i0, hab, h2, h3, h4, rfl⟩
      · exact absurd rfl (h1 k hlt)
      simp only [Option.some.injEq, Addr.mk.injEq, and_true] at hab
      obtain ⟨rfl, rfl⟩ := hab
      have hik := firstR_le rfl h4
      have d0 := hpat i0 h2
      have HE : Hid ((R i0).bo = (R k).bo) := h3
      have hbe : ((R i0).bo.toList == (R k).bo.toList) = true := beq_yes h3
      clear h3 hpat
      go_wp2_with fail
      go_region_held3 (fun w' => w'.cell? ⟨b, o + k * 4, none⟩ = some (.string (R k).bo) ∧ w'.cell? ⟨pb, po + i0 * 4, none⟩ = some (.string (R i0).bo)) (go_keep) (fail)
      go_wp2_with fail
      have HD := HL.drew
      refine (routeM_any _ _ _ _ R _ _ HD.rt HD.pr).mono ?_
      rintro e w' ⟨hf, rfl⟩
      rcases hf with ⟨h1, -⟩ | ⟨b', o', i1, hab, h2', h3', h4', rfl⟩
      · exact absurd rfl (h1 i0 h2)
      simp only [Option.some.injEq, Addr.mk.injEq, and_true] at hab
      obtain ⟨rfl, rfl⟩ := hab
      obtain rfl : i0 = i1 := firstR_eq rfl h3' (fun j hj e => h4 j hj (e.trans HE.out)) h4'
      clear h3' h4' h4 h2' HE
      go_wp2_with fail
      go_loop [6, 7] (fun f i => ∃ m : Nat, m ≤ k + 1 ∧ i = .int .i64 m ∧ f = .bool (decide (i0 < m))) (fun _ i => k + 1 - (intOf i).toNat)
      case atStart => exact ⟨0, Nat.zero_le _, rfl, by simp⟩
      case round =>
        obtain ⟨m, hm, rfl, rfl⟩ := hrel
        by_cases hmk : m ≤ k
        · by_cases hmi : m = i0
          · subst hmi
            go_wp2_with fail
            go_round
            case rel => exact ⟨m + 1, by omega, by go_num, by simp⟩
            case measure => simp [intOf]; omega
          · have hmo' : decide (po + m * 4 = po + i0 * 4) = false := by simp; omega
            go_wp2_with fail
            go_round
            case rel => exact ⟨m + 1, by omega, by go_num, congrArg Value.bool (decide_eq_decide.2 (by omega))⟩
            case measure => simp [intOf]; omega
        · have hfd : decide (i0 < m) = true := by simp; omega
          go_wp2_with fail
          go_roundw
          case rel => exact ⟨k + 1, by omega, by go_num, HD⟩
          case measure => simp [intOf]; omega
    · have BW := HL.be
      go_wp2_with fail
      go_ret
      exact ⟨rfl, BW⟩
end Go.Proofs.Qxb6604078a
