import Derived.Test.Qxb6604224aU
namespace Go.Proofs.Qxb6604224a
open Go.RowKit

theorem beq_yes {a b : ByteArray} (h : a = b) : (a.toList == b.toList) = true := by
  subst h; simp

theorem lenTo_tail (S : Nat → ByteArray) (n : Nat) : lenTo S (n + 1) = (S 0).size + lenTo (fun j => S (j + 1)) n := by
  induction n with
  | zero => simp [lenTo]
  | succ n ih => rw [lenTo, ih, lenTo]; omega

theorem strs_tail {w : World} {b o n d : Nat} {S : Nat → ByteArray} (h : Strs w (some ⟨b, o, none⟩) (n + 1) (d + 1) S) : Strs w (some ⟨b, o + 1, none⟩) n d (fun j => S (j + 1)) := by
  obtain ⟨b', o', e, hl, hc⟩ := h.here (by omega)
  simp only [Option.some.injEq, Addr.mk.injEq, and_true] at e
  obtain ⟨rfl, rfl⟩ := e
  have := h.le
  have := h.cap
  exact ⟨by omega, by omega, fun e => (by cases e), fun _ => ⟨b, o + 1, rfl, hl, fun i hi => by rw [← hc (i + 1) (by omega)]; congr 2; omega⟩, fun i hi => h.size (i + 1) (by omega)⟩

set_option maxHeartbeats 1000000 in
theorem unfold_any (a : Option Addr) (n c : Nat) (S : Nat → ByteArray) (w : World) (h : Strs w a n c S) :
    Calls Try.prog 4 #[.slice a n c] w fun e w' => e = .returned (.bool true) ∧ Below w.heap.size w w' := by
  have HS : Hid (Strs w a n c S) := h
  clear h
  go_enter Try.func4, Try.ntmps4
  go_wp2_with fail
  refine (bytes10_any a n c S _ HS.out).mono ?_
  rintro e w' ⟨⟨r, rfl, hr⟩, rfl⟩
  cases r with
  | false =>
    clear hr
    go_wp2_with fail
    go_ret
    exact ⟨rfl, Below.refl _ _⟩
  | true =>
  obtain ⟨_, hsz⟩ := hr rfl
  go_wp2_with fail
  refine (tooBig_any a n c S _ HS.out hsz).mono ?_
  rintro e w' ⟨⟨r, rfl, hr⟩, rfl⟩
  clear hsz
  cases r with
  | true =>
    clear hr
    go_wp2_with fail
    go_ret
    exact ⟨rfl, Below.refl _ _⟩
  | false =>
  obtain ⟨hn, hlen⟩ := hr rfl
  clear hr
  go_wp2_with fail
  refine (cloneWords_any a n c S _ HS.out).mono ?_
  rintro e w1 ⟨a1, c1, rfl, hs1, hb1⟩
  clear HS
  have HS1 : Hid (Strs w1 a1 n c1 S) := hs1
  clear hs1
  go_wp2_with fail
  refine (zz_any a1 n c1 S _ HS1.out hn hlen).mono ?_
  rintro e w2 ⟨rfl, hb2⟩
  have HS2 : Hid (Strs w2 a1 n c1 S) := HS1.out.later hb2
  have hb3 : Below w.heap.size w w2 := hb1.trans (hb2.mono hb1.size)
  clear HS1 hb1 hb2
  match n, hn, hlen, HS2 with
  | 0, hn, hlen, HS2 =>
    rw [J_zero]
    go_wp2_with fail
    go_ret
    exact ⟨rfl, hb3⟩
  | 1, hn, hlen, HS2 =>
    rw [J_one]
    obtain ⟨b, o, rfl, _, hc⟩ := HS2.out.here (by omega)
    have hc0 := hc 0 (by omega)
    rw [Nat.add_zero] at hc0
    clear hc HS2
    go_wp2_with fail
    go_ret
    exact ⟨rfl, hb3⟩
  | 2, hn, hlen, HS2 =>
    have hj := beq_yes (J_two S)
    obtain ⟨b, o, rfl, _, hc⟩ := HS2.out.here (by omega)
    have hc0 := hc 0 (by omega)
    rw [Nat.add_zero] at hc0
    have hc1 := hc 1 (by omega)
    have z0 := lenTo_get S 2 0 (by omega)
    have z1 := lenTo_get S 2 1 (by omega)
    have hz5 : (⟨#[32, 97, 110, 100, 32]⟩ : ByteArray).size = 5 := rfl
    have ha1 := fun w => run_string_add_sum (P := Try.prog) w (S 0) ⟨#[32, 97, 110, 100, 32]⟩ (by omega)
    have ha2 := fun w => run_string_add_sum (P := Try.prog) w (S 0 ++ ⟨#[32, 97, 110, 100, 32]⟩) (S 1) (by rw [ByteArray.size_append]; omega)
    clear hc HS2 z0 z1 hz5 hlen
    go_wp2_with fail
    go_region_held3 (fun w' => w'.cell? ⟨b, o, none⟩ = some (.string (S 0)) ∧ w'.cell? ⟨b, o + 1, none⟩ = some (.string (S 1))) (go_keep) (fail)
    go_wp2_with fail
    go_ret
    exact ⟨rfl, hb3.drew⟩
  | m + 3, hn, hlen, HS2 =>
    have hj := beq_yes (J_more S m)
    obtain ⟨b, o, rfl, hbl, hc⟩ := HS2.out.here (by omega)
    have hc0 := hc 0 (by omega)
    rw [Nat.add_zero] at hc0
    have hle := HS2.out.le
    obtain ⟨d, rfl⟩ : ∃ d, c1 = d + 1 := ⟨c1 - 1, by omega⟩
    have HS3 : Hid (Strs w2 (some ⟨b, o + 1, none⟩) (m + 2) d (fun j => S (j + 1))) := strs_tail HS2.out
    have hlt : lenTo S (m + 3) = (S 0).size + lenTo (fun j => S (j + 1)) (m + 2) := lenTo_tail S (m + 2)
    have hl3 : lenTo (fun j => S (j + 1)) (m + 2) ≤ 1048576 := by omega
    have hjs := J_size (fun j => S (j + 1)) (m + 2)
    have z0 := lenTo_get S (m + 3) 0 (by omega)
    have hz2 : (⟨#[44, 32]⟩ : ByteArray).size = 2 := rfl
    have ha1 := fun w => run_string_add_sum (P := Try.prog) w (S 0) ⟨#[44, 32]⟩ (by omega)
    have ha2 := fun w => run_string_add_sum (P := Try.prog) w (S 0 ++ ⟨#[44, 32]⟩) (J (fun j => S (j + 1)) (m + 2)) (by rw [ByteArray.size_append]; omega)
    clear hc HS2 z0 hz2 hlen hlt hjs
    have e0 : ¬ (d = 0) := by omega
    have e1 : ¬ ((m : Int) + 3 = 0) := by omega
    have e2 : ¬ ((m : Int) + 3 = 1) := by omega
    have e3 : ¬ ((m : Int) + 3 = 2) := by omega
    have i1 : (0 : Int) < (m : Int) + 3 := by omega
    have i2 : (1 : Int) ≤ (m : Int) + 3 := by omega
    have i3 : (m : Int) + 3 ≤ (d : Int) + 1 := by omega
    go_wp2_with fail
    go_region_held3 (fun w' => w'.cell? ⟨b, o, none⟩ = some (.string (S 0)))
      (first | (exact (hb4.cell (p := ⟨b, o, none⟩) (by simpa using hbl)).trans (by simpa using hc0)) | go_keep)
      (first | (go_at_call 9; refine (zz_any (some ⟨b, o + 1, none⟩) (m + 2) d (fun j => S (j + 1)) _ ?_ ?_ ?_).mono ?_; (exact HS3.out.later (Below.refl _ _).drew); (omega); (exact hl3); rintro e w4 ⟨rfl, hb4⟩))
    go_wp2_with fail
    go_ret
    exact ⟨rfl, hb3.drew.trans (hb4.mono hb3.drew.size)⟩
end Go.Proofs.Qxb6604224a
