import Derived.Test.Qxb6604224aX
import Derived.OwnWalk
namespace Go.Proofs.Qxb6604224a
open Go.RowKit

set_option maxHeartbeats 2000000 in
theorem exact_any (a : Option Addr) (n c : Nat) (S : Nat → ByteArray) (w : World) (h : Strs w a n c S) :
    Calls Try.prog 3 #[.slice a n c] w fun e w' => e = .returned (.bool true) ∧ Below w.heap.size w w' := by
  have HS : Hid (Strs w a n c S) := h
  clear h
  go_enter Try.func3, Try.ntmps3
  go_wp2_with fail
  refine (bytes6_any a n c S _ HS.out).mono ?_
  rintro e w' ⟨⟨r, rfl, hr⟩, rfl⟩
  cases r with
  | false =>
    clear hr
    go_wp2_with fail
    go_ret
    exact ⟨rfl, Below.refl _ _⟩
  | true =>
  obtain ⟨_, hsz⟩ := hr rfl
  go_wp2_with fail
  refine (tooBig_any a n c S _ HS.out hsz).mono ?_
  rintro e w' ⟨⟨r, rfl, hr⟩, rfl⟩
  cases r with
  | true =>
    clear hr hsz
    go_wp2_with fail
    go_ret
    exact ⟨rfl, Below.refl _ _⟩
  | false =>
  obtain ⟨hn, hlen⟩ := hr rfl
  clear hr
  have HZ : Hid (∀ i, i < n → (S i).size ≤ 1048576) := hsz
  clear hsz
  go_wp2_with fail
  refine (cloneWords_any a n c S _ HS.out).mono ?_
  rintro e w1 ⟨a1, c1, rfl, hs1, hb1⟩
  clear HS
  have HS1 : Hid (Strs w1 a1 n c1 S) := hs1
  clear hs1
  go_wp2_with fail
  go_loop [4, 5] (fun z i => ∃ (k t : Nat), k ≤ n ∧ z = .int .i64 t ∧ i = .int .i64 k ∧ t ≤ 1300000 ∧ Hid (t = 3 + lenTo S k + 2 * k)) (fun _ i => n - (intOf i).toNat)
  case atStart => exact ⟨0, 3, Nat.zero_le _, rfl, rfl, by omega, (rfl : 3 = 3 + lenTo S 0 + 2 * 0)⟩
  case round =>
    obtain ⟨k, t, hk, rfl, rfl, ht, HT⟩ := hrel
    by_cases hlt : k < n
    · obtain ⟨b, o, rfl, _, hcell⟩ := HS1.out.here (by omega)
      have hck := hcell k hlt
      have hsk := HZ.out k hlt
      clear hcell
      have hmono := lenTo_mono S (show k + 1 ≤ n by omega)
      simp only [lenTo] at hmono
      go_wp2_with fail
      go_round
      case rel =>
        have := HT.out
        exact ⟨k + 1, t + ((S k).size + 2), by omega, by go_num, by go_num, by omega, (show t + ((S k).size + 2) = 3 + (lenTo S k + (S k).size) + 2 * (k + 1) by omega)⟩
      case measure => simp [intOf]; omega
    · obtain rfl : n = k := by omega
      clear hlt hk HT
      obtain ⟨i0, hi, hz0, hz1, hz2⟩ := info_parts info5
      have m1 : i0.bytes * t ≤ 281474976710656 := by rw [hz2]; omega
      have m2 : t ≤ maxLen := by unfold maxLen; omega
      go_wp2_with (first | (at_make; refine wpList_make_own _ rfl _ _ 25 rfl w1.heap.size 5 i0 (.int .u8 0) 1 Try.underlying25 hi hz0 hz1 _ _ _ t rfl rfl rfl m1 m2 (Nat.le_refl _) ?_; intro w3 hown3 hg3))
      have hb3 : Below w1.heap.size w1 w3 := (Below.refl _ _).grown hg3 (Nat.le_refl _) (fun k hk => by cases hk)
      clear m1 m2 hg3 ht
      go_wp2_with fail
      go_loopw [6, 7] (fun v i wr => ∃ (k : Nat) (L : List UInt8), k ≤ n ∧ i = .int .i64 k ∧ Hid (L = buf S n k) ∧ Hid (wr.ownsRow w1.heap.size 5 1 v L.length (Lib.byteCells L)) ∧ Hid (Below w1.heap.size w1 wr)) (fun _ i _ => n - (intOf i).toNat)
      case atStart => exact ⟨0, [], Nat.zero_le _, rfl, (rfl : [] = buf S n 0), hown3, hb3⟩
      case round =>
        clear hown3 hb3
        obtain ⟨k, L, hk, rfl, HL, HO, HB⟩ := hrel
        have hL : L.length ≤ 1376256 := by
          have h1 := buf_le S n k
          have h2 := lenTo_mono S hk
          rw [← HL.out] at h1
          omega
        by_cases hlt : k < n
        · obtain ⟨b, o, rfl, hbl, hcell⟩ := HS1.out.here (by omega)
          have HCK : Hid (w1.cell? ⟨b, o + k, none⟩ = some (.string (S k))) := hcell k hlt
          have hsk := HZ.out k hlt
          clear hcell
          have hwz := HB.out.size
          have m3 : L.length + (S k).size ≤ maxLen := by unfold maxLen; omega
          have m4 : L.length + (S k).size ≤ 140737488355328 := by omega
          by_cases hk0 : k = 0
          · subst hk0
            have hck := (HB.out.cell (p := ⟨b, o + 0, none⟩) hbl).trans HCK.out
            rw [Nat.add_zero] at hck
            go_wp2_with (first | (at_builtin; refine Lib.wpList_append_own_string _ rfl _ _ 25 9 rfl w1.heap.size 5 i0 Try.underlying25 Try.underlying9 hi hz0 hz1 hz2 _ _ _ rfl HO.out _ rfl m3 m4 hwz ?_; intro v4 w4 hown4 hg4 _))
            have HB4 : Hid (Below w1.heap.size w1 w4) := own_grown HO.out HB.out hwz hg4
            have HO4 := own_cast hown4 (byteCells_app L (S 0))
            clear hg4 hown4
            go_wp2_with fail
            go_roundw
            case rel => exact ⟨1, L ++ bl (S 0), by omega, by go_num, (show _ = buf S n 0 ++ sepAt n 0 ++ bl (S 0) by rw [HL.out]; simp [sepAt]), HO4, HB4⟩
            case measure => simp [intOf]; omega
          · have hck := (HB.out.cell (p := ⟨b, o + k, none⟩) hbl).trans HCK.out
            have hkp : (0 : Int) < (k : Int) := by omega
            by_cases hkn : k + 1 = n
            · have hz5 : (⟨#[32, 97, 110, 100, 32]⟩ : ByteArray).size = 5 := rfl
              have m5 : L.length + (⟨#[32, 97, 110, 100, 32]⟩ : ByteArray).size ≤ maxLen := by rw [hz5]; unfold maxLen; omega
              have m6 : L.length + (⟨#[32, 97, 110, 100, 32]⟩ : ByteArray).size ≤ 140737488355328 := by omega
              have m7 : L.length + (⟨#[32, 97, 110, 100, 32]⟩ : ByteArray).size + (S k).size ≤ maxLen := by rw [hz5]; unfold maxLen; omega
              have m8 : L.length + (⟨#[32, 97, 110, 100, 32]⟩ : ByteArray).size + (S k).size ≤ 140737488355328 := by omega
              have e1 : IntKind.i64.wrap ((n : Int) - 1) = (k : Int) := by rw [IntKind.wrap_i64]; omega
              go_wp2_with (first | (at_builtin; refine Lib.wpList_append_own_string _ rfl _ _ 25 9 rfl w1.heap.size 5 i0 Try.underlying25 Try.underlying9 hi hz0 hz1 hz2 _ _ _ rfl HO.out _ rfl m5 m6 hwz ?_; intro v4 w4 hown4 hg4 _; have hb4 : Below w1.heap.size w1 w4 := own_grown HO.out HB.out hwz hg4; have hck4 := (hb4.cell (p := ⟨b, o + k, none⟩) hbl).trans HCK.out; have hwz4 := hb4.size; clear hck hg4) | (at_builtin; refine Lib.wpList_append_own_string _ rfl _ _ 25 9 rfl w1.heap.size 5 i0 Try.underlying25 Try.underlying9 hi hz0 hz1 hz2 _ _ _ rfl hown4 _ rfl m7 m8 hwz4 ?_; intro v5 w5 hown5 hg5 _))
              have HB5 : Hid (Below w1.heap.size w1 w5) := own_grown hown4 hb4 hwz4 hg5
              have HO5 := own_cast (L := L ++ bl ⟨#[32, 97, 110, 100, 32]⟩ ++ bl (S k)) hown5 (by rw [byteCells_app, byteCells_app])
              clear hg5 hown5 hown4
              have hsep : sepAt n k = bl ⟨#[32, 97, 110, 100, 32]⟩ := by unfold sepAt; rw [if_neg hk0, if_pos hkn]; rfl
              go_wp2_with fail
              go_roundw
              case rel => exact ⟨k + 1, L ++ bl ⟨#[32, 97, 110, 100, 32]⟩ ++ bl (S k), by omega, by go_num, (show _ = buf S n k ++ sepAt n k ++ bl (S k) by rw [HL.out, hsep]), HO5, HB5⟩
              case measure => simp [intOf]; omega
            · have hy2 : (⟨#[44, 32]⟩ : ByteArray).size = 2 := rfl
              have m5 : L.length + (⟨#[44, 32]⟩ : ByteArray).size ≤ maxLen := by rw [hy2]; unfold maxLen; omega
              have m6 : L.length + (⟨#[44, 32]⟩ : ByteArray).size ≤ 140737488355328 := by omega
              have m7 : L.length + (⟨#[44, 32]⟩ : ByteArray).size + (S k).size ≤ maxLen := by rw [hy2]; unfold maxLen; omega
              have m8 : L.length + (⟨#[44, 32]⟩ : ByteArray).size + (S k).size ≤ 140737488355328 := by omega
              obtain ⟨q, hq⟩ : ∃ q, n = q + 1 := ⟨n - 1, by omega⟩
              have e1 : IntKind.i64.wrap ((n : Int) - 1) = (q : Int) := by rw [IntKind.wrap_i64]; omega
              have e2 : ¬ k = q := by omega
              have e3 : ¬ (k : Int) = (q : Int) := by omega
              have e4 : ((k : Int) == (q : Int)) = false := by simpa using e3
              clear hq
              go_wp2_with (first | (at_builtin; refine Lib.wpList_append_own_string _ rfl _ _ 25 9 rfl w1.heap.size 5 i0 Try.underlying25 Try.underlying9 hi hz0 hz1 hz2 _ _ _ rfl HO.out _ rfl m5 m6 hwz ?_; intro v4 w4 hown4 hg4 _; have hb4 : Below w1.heap.size w1 w4 := own_grown HO.out HB.out hwz hg4; have hck4 := (hb4.cell (p := ⟨b, o + k, none⟩) hbl).trans HCK.out; have hwz4 := hb4.size; clear hck hg4) | (at_builtin; refine Lib.wpList_append_own_string _ rfl _ _ 25 9 rfl w1.heap.size 5 i0 Try.underlying25 Try.underlying9 hi hz0 hz1 hz2 _ _ _ rfl hown4 _ rfl m7 m8 hwz4 ?_; intro v5 w5 hown5 hg5 _))
              have HB5 : Hid (Below w1.heap.size w1 w5) := own_grown hown4 hb4 hwz4 hg5
              have HO5 := own_cast (L := L ++ bl ⟨#[44, 32]⟩ ++ bl (S k)) hown5 (by rw [byteCells_app, byteCells_app])
              clear hg5 hown5 hown4
              have hsep : sepAt n k = bl ⟨#[44, 32]⟩ := by unfold sepAt; rw [if_neg hk0, if_neg hkn]; rfl
              go_wp2_with fail
              go_roundw
              case rel =>
                exact ⟨k + 1, L ++ bl ⟨#[44, 32]⟩ ++ bl (S k), by omega, by go_num, (show _ = buf S n k ++ sepAt n k ++ bl (S k) by rw [HL.out, hsep]), HO5, HB5⟩
              case measure => simp [intOf]; omega
        · obtain rfl : n = k := by omega
          have hj : ((J S n).toList == (⟨L.toArray⟩ : ByteArray).toList) = true := beq_yes (by rw [HL.out]; exact J_buf S n)
          have hj2 : ((J S n).toList == L) = true := by simpa using hj
          have HS2 : Hid (Strs wr a1 n c1 S) := HS1.out.later HB.out
          have hcv := conv_own _ _ _ _ HO.out
          have hb5 : Below w.heap.size w wr := hb1.trans (HB.out.mono hb1.size)
          go_wp2_with fail
          go_region_held3 (fun w' => (convert 25 9 u6).run Try.prog w' = .ok (.string ⟨L.toArray⟩) w')
            (first | (exact conv_own _ _ _ _ (own_later HO.out.drew hb6)) | (exact conv_own _ _ _ _ HO.out.drew) | (exact conv_own _ _ _ _ HO.out))
            (first | (go_at_call 9; refine (zz_any a1 n c1 S _ ?_ ?_ ?_).mono ?_; (exact HS2.out.later (Below.refl _ _).drew); (exact hn); (exact hlen); rintro e w6 ⟨rfl, hb6⟩))
          go_wp2_with fail
          go_ret
          exact ⟨rfl, hb5.drew.trans (hb6.mono hb5.drew.size)⟩
end Go.Proofs.Qxb6604224a
