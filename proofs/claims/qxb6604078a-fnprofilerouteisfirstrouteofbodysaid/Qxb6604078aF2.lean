import Derived.Test.Qxb6604078aF
import Derived.Test.Qxb6604078aA2
import Derived.RegionTactic
import Derived.BigRegion
namespace Go.Proofs.Qxb6604078a
open Go.RowKit

/-! ### zzSteps: nothing is said of what it hands back but that it is a slice of that length -/

def RetSl (w : World) (n : Nat) (e : Ending) (w' : World) : Prop := ∃ a c, e = .returned (.slice a n c) ∧ Below w.heap.size w w'

theorem info97 : (Try.prog.info? 97).map (fun i => (i.zero, i.size, i.bytes)) = some (some (.agg #[.string ⟨#[]⟩, .string ⟨#[]⟩]), 2, 32) := by kernel_rfl

set_option maxHeartbeats 2000000 in
theorem steps_any (a : Option Addr) (n c : Nat) (S : Nat → TwoV) (w : World) (h : Twos w a n c S) :
    Calls Try.prog 34 #[.slice a n c] w fun e w' => RetSl w n e w' := by
  have c1 := h.le
  have c2 := h.cap
  have ha := h.here
  have hn := h.nil
  clear h
  have heq := fun w a n c => Lib.run_eql_slice_nil (P := Try.prog) w 31 72 a n c 0 0 Try.underlying31
  cases a with
  | none =>
    obtain ⟨rfl, rfl⟩ := hn rfl
    clear hn ha
    go_enter Try.func34, Try.ntmps34
    go_wp2
    go_ret
    exact ⟨_, _, rfl, Below.refl _ _⟩
  | some x =>
    clear hn
    have hmk := make_eq (P := Try.prog) 35 97 (.agg #[.string ⟨#[]⟩, .string ⟨#[]⟩]) 2 32 Try.underlying35 info97 n (by omega) (by omega)
    go_enter Try.func34, Try.ntmps34
    go_wp2
    go_loopw [4] (fun i wr => ∃ (k : Nat) (f : Nat → Value), k ≤ n ∧ i = .int .i64 k ∧ wr.rowIs w.heap.size 97 (n * 2) f ∧ Below w.heap.size w wr) (fun i _ => n - (intOf i).toNat)
    case atStart => exact ⟨0, _, Nat.zero_le _, rfl, made_row w _ (n * 2) 97, (Below.refl _ _).alloc (Nat.le_refl _) _⟩
    case round =>
      obtain ⟨k, f, hk, rfl, hrow, hb⟩ := hrel
      by_cases hlt : k < n
      · obtain ⟨b, o, hao, hbl, hat⟩ := ha (by omega)
        have hck := (hat k hlt).later hbl hb
        simp only [Option.some.injEq] at hao
        subst hao
        obtain ⟨x0, x1, -, -⟩ := hck
        have z0 := hrow.cell (i := k * 2) (by omega)
        have z1 := hrow.frozen (k * 2)
        have z2 := hrow.cell (i := k * 2 + 1) (by omega)
        have z3 := hrow.frozen (k * 2 + 1)
        have hne : ¬ w.heap.size = b := by omega
        have hne' : ¬ b = w.heap.size := by omega
        have hlt' : (k : Int) < (n : Int) := by omega
        have hk0 : (0 : Int) ≤ (k : Int) := by omega
        clear hat ha hmk
        go_wp2_with fail
        go_region_held3 (fun w' => w'.cell? ⟨b, o + k * 2, none⟩ = some (.string (S k).x) ∧ w'.cell? ⟨b, o + k * 2 + 1, none⟩ = some (.string (S k).y)) (go_keep) (fail)
        go_wp2
        go_roundw
        case rel => exact ⟨k + 1, _, by omega, by go_num, ((hrow.set (k * 2) _).set (k * 2 + 1) _).drew, ((hb.setCell (by simp) _).setCell (by simp) _).drew⟩
        case measure => simp [intOf]; omega
      · obtain rfl : k = n := by omega
        clear hmk ha
        go_wp2
        go_ret
        exact ⟨_, _, rfl, hb⟩

/-! ### zzRoute, zzRoutes -/

def RetRoute (w : World) (bo ti : ByteArray) (sn tn : Nat) (T : Nat → ThrV) (e : Ending) (w' : World) : Prop :=
  ∃ sa sc ta tc, e = .returned (.agg #[.string bo, .string ti, .slice sa sn sc, .slice ta tn tc]) ∧ PThrs w.heap.size w' ta tn T ∧ Below w.heap.size w w'

theorem retRoute_mk {w w0 w1 w2 : World} {bo ti : ByteArray} {sn tn : Nat} {T : Nat → ThrV} {sa : Option Addr} {sc : Nat} {ta : Option Addr} {tc : Nat} (h0 : Below w.heap.size w w0) (hz : w.heap.size + 2 ≤ w0.heap.size) (h1 : Below w0.heap.size w0 w1) (h2 : Below w1.heap.size w1 w2)
    (hP : PThrs w1.heap.size w2 ta tn T) : RetRoute w bo ti sn tn T (.returned (.agg #[.string bo, .string ti, .slice sa sn sc, .slice ta tn tc]))
      (((((w2.setCell ⟨w.heap.size + 1, 0, none⟩ (.string bo)).setCell ⟨w.heap.size + 1, 1, none⟩ (.string ti)).setCell ⟨w.heap.size + 1, 2, none⟩ (.slice sa sn sc)).setCell ⟨w.heap.size + 1, 3, none⟩ (.slice ta tn tc))) := by
  have hb1 : Below w.heap.size w w1 := h0.trans (h1.mono h0.size)
  have hb2 : Below w.heap.size w w2 := hb1.trans (h2.mono hb1.size)
  have hs := h1.size
  have s : Same (w.heap.size + 2) w2 (((((w2.setCell ⟨w.heap.size + 1, 0, none⟩ (.string bo)).setCell ⟨w.heap.size + 1, 1, none⟩ (.string ti)).setCell ⟨w.heap.size + 1, 2, none⟩ (.slice sa sn sc)).setCell ⟨w.heap.size + 1, 3, none⟩ (.slice ta tn tc))) :=
    (((Same.setCell w2 (by simp) _).trans (.setCell _ (by simp) _)).trans (.setCell _ (by simp) _)).trans (.setCell _ (by simp) _)
  exact ⟨_, _, _, _, rfl, ((hP.mono (by omega)).same s).mono (by omega), (((hb2.setCell (by simp) _).setCell (by simp) _).setCell (by simp) _).setCell (by simp) _⟩

theorem two_cells {N : Nat} {w w' : World} (h : Below w.heap.size w w') (h1 : N < w.heap.size) (h2 : N + 1 < w.heap.size) :
    (∀ j, w'.cell? ⟨N, j, none⟩ = w.cell? ⟨N, j, none⟩) ∧ (∀ j, w'.cell? ⟨N + 1, j, none⟩ = w.cell? ⟨N + 1, j, none⟩) ∧ (∀ j, w'.frozen? ⟨N + 1, j, none⟩ = w.frozen? ⟨N + 1, j, none⟩) :=
  ⟨fun j => h.cell (p := ⟨N, j, none⟩) h1, fun j => h.cell (p := ⟨N + 1, j, none⟩) h2, fun j => h.frozen (p := ⟨N + 1, j, none⟩) h2⟩

theorem two_lt {N : Nat} {w w' : World} (h : Below w.heap.size w w') (h2 : N + 1 < w.heap.size) : N < w'.heap.size ∧ N + 1 < w'.heap.size := by
  have := h.size
  omega

set_option maxHeartbeats 2000000 in
theorem route_any (bo ti : ByteArray) (sa : Option Addr) (sn sc : Nat) (S : Nat → TwoV) (ta : Option Addr) (tn tc : Nat) (T : Nat → ThrV) (w : World) (hS : Twos w sa sn sc S) (hT : Thrs w ta tn tc T) :
    Calls Try.prog 17 #[.agg #[.string bo, .string ti, .slice sa sn sc, .slice ta tn tc]] w fun e w' => RetRoute w bo ti sn tn T e w' := by
  have h0 : Below w.heap.size w ((w.alloc (.cells #[.string bo, .string ti, .slice sa sn sc, .slice ta tn tc] 34)).alloc (.cells #[.string ⟨#[]⟩, .string ⟨#[]⟩, .slice none 0 0, .slice none 0 0] 38)).drew := (((Below.refl _ _).alloc (Nat.le_refl _) _).alloc (by simp) _).drew
  go_enter Try.func17, Try.ntmps17
  go_wp2
  go_region_held3 (fun w' => w'.cell? ⟨w.heap.size, 0, none⟩ = some (.string bo) ∧ w'.cell? ⟨w.heap.size, 1, none⟩ = some (.string ti) ∧ w'.cell? ⟨w.heap.size, 2, none⟩ = some (.slice sa sn sc) ∧ w'.cell? ⟨w.heap.size, 3, none⟩ = some (.slice ta tn tc))
    (go_keep)
    (first | (go_at_call 34; refine (steps_any _ _ _ S _ (hS.later h0)).mono ?_; rintro e w1 ⟨sa', sc', rfl, hb1⟩; have m1 := two_cells (N := w.heap.size) hb1 (by simp; omega) (by simp))
           | (go_at_call 25; refine (thresholds_any _ _ _ T _ (hT.later (h0.trans (hb1.mono h0.size)))).mono ?_; rintro e w2 ⟨ta', tc', rfl, hP, hb2⟩; have m2 := two_cells (N := w.heap.size) hb2 (two_lt hb1 (by simp)).1 (two_lt hb1 (by simp)).2))
  go_wp2
  exact bodyPost_ret (v := .agg #[.string bo, .string ti, .slice sa' sn sc', .slice ta' tn tc']) (by simp [results, Try.results17, go_sem, m2, m1]) rfl (retRoute_mk h0 (by simp) hb1 hb2 hP)
end Go.Proofs.Qxb6604078a
