import Derived.Test.Qxb6604224aProg
import Derived.WalkKit
import Derived.WalkSpells
import Derived.WalkLawsBesides
import Derived.Deep.OwnRows
import Derived.Deep.RegionHeld3
namespace Go.Proofs.Qxb6604224a
open Go.RowKit

/-- What a 'make' lays. -/
def madeObj (z : Value) (m : Nat) (e : TypeId) : Obj := .cells (madeCells z.cells m) e

theorem make_eq {P : Program} (t e : TypeId) (z : Value) (size bytes : Nat) (ht : P.underlying t = some (.slice e)) (hinfo : (P.info? e).map (fun i => (i.zero, i.size, i.bytes)) = some (some z, size, bytes))
    (n : Nat) (hbytes : bytes * n ≤ 281474976710656) (h63 : n ≤ 9223372036854775807) (w : World) :
    (Instr.makeSlice t (.int .i64 (n : Int)) (.int .i64 (n : Int))).run P w = .ok (.slice (some ⟨w.heap.size, 0, none⟩) n n) (w.alloc (madeObj z (n * size) e)) := by
  obtain ⟨i, hi, hzz⟩ := Option.map_eq_some_iff.1 hinfo
  simp only [Prod.mk.injEq] at hzz
  obtain ⟨hz, hs, hb⟩ := hzz
  have hb' : (i.bytes : Int) * (n : Int) ≤ 281474976710656 := by
    rw [hb]
    have h : ((bytes * n : Nat) : Int) ≤ 281474976710656 := by omega
    rwa [Int.natCast_mul] at h
  have hr := run_make (P := P) w t e i z ht hi hz .i64 .i64 n n (by omega) (Int.le_refl _) hb' (by omega)
  simp only [Int.toNat_natCast, hs] at hr
  exact hr

theorem made_row (w : World) (z : Value) (m : Nat) (e : TypeId) : (w.alloc (madeObj z m e)).rowIs w.heap.size e m (fun i => (madeCells z.cells m).getD i undef) := by
  have h := World.rowIs_alloc w (madeCells z.cells m) e (fun i => (madeCells z.cells m).getD i undef) (fun i hi => by simp [Array.getD, hi])
  rwa [size_madeCells] at h

theorem cell_new' (w : World) (C : Array Value) (t : TypeId) (i : Nat) {v : Value} (h : C[i]? = some v) : (w.alloc (.cells C t)).cell? ⟨w.heap.size, i, none⟩ = some v := by
  have h2 : i < C.size := (Array.getElem?_eq_some_iff.1 h).1
  have := (World.rowIs_alloc w C t (fun i => (C[i]?).getD undef) (fun i hi => by simp [hi])).cell h2
  rw [h] at this
  exact this

/-- The bytes behind a slice. -/
structure Bytes (w : World) (a : Option Addr) (n c : Nat) (Z : Nat → Int) : Prop where
  nil : a = none → n = 0 ∧ c = 0
  here : 0 < n → ∃ b o, a = some ⟨b, o, none⟩ ∧ b < w.heap.size ∧ ∀ i, i < n → w.cell? ⟨b, o + i, none⟩ = some (.int .u8 (Z i))

def RetB (e : Ending) : Prop := ∃ b : Bool, e = .returned (.bool b)
theorem retB (b : Bool) : RetB (.returned (.bool b)) := ⟨b, rfl⟩

theorem info5 : (Try.prog.info? 5).map (fun i => (i.zero, i.size, i.bytes)) = some (some (.int .u8 0), 1, 1) := by kernel_rfl

set_option maxHeartbeats 400000 in
theorem bytes11_any (a : Option Addr) (n c : Nat) (bad : Bool) (size : Int) (w : World) (hn : n ≤ 9223372036854775807) :
    Calls Try.prog 11 #[.slice a n c, .bool bad, .int .i64 size] w fun e w' => RetB e ∧ w = w' := by
  by_cases h : 1048576 < n
  · have h' : (1048576 : Int) < (n : Int) := by omega
    go_enter Try.func11, Try.ntmps11
    go_wp2
    go_ret
    exact ⟨retB _, rfl⟩
  · have h' : ¬ (1048576 : Int) < (n : Int) := by omega
    go_enter Try.func11, Try.ntmps11
    go_wp2
    go_ret
    exact ⟨retB _, rfl⟩

/-- A copy in a new block. -/
def RetCopy (w : World) (n : Nat) (Z : Nat → Int) (e : Ending) (w' : World) : Prop :=
  ∃ f, e = .returned (.slice (some ⟨w.heap.size, 0, none⟩) n n) ∧ w'.rowIs w.heap.size 5 n f ∧ (∀ j, j < n → f j = .int .u8 (Z j)) ∧ Below w.heap.size w w'

set_option maxHeartbeats 400000 in
theorem cloneBytes_nil (w : World) : Calls Try.prog 12 #[.slice none 0 0] w fun e w' => e = .returned (.slice none 0 0) ∧ w = w' := by
  have heq := fun w a n c => Lib.run_eql_slice_nil (P := Try.prog) w 25 5 a n c 0 0 Try.underlying25
  go_enter Try.func12, Try.ntmps12
  go_wp2
  go_ret
  exact ⟨rfl, rfl⟩

set_option maxHeartbeats 400000 in
theorem cloneBytes_some (x : Addr) (n c : Nat) (Z : Nat → Int) (w : World) (h : Bytes w (some x) n c Z) (hn : n ≤ 1048576) :
    Calls Try.prog 12 #[.slice (some x) n c] w fun e w' => RetCopy w n Z e w' := by
  have heq := fun w a n c => Lib.run_eql_slice_nil (P := Try.prog) w 25 5 a n c 0 0 Try.underlying25
  have ha := h.here
  clear h
  have hmk := make_eq (P := Try.prog) 25 5 (.int .u8 0) 1 1 Try.underlying25 info5 n (by omega) (by omega)
  rw [Nat.mul_one] at hmk
  go_enter Try.func12, Try.ntmps12
  go_wp2
  go_loopw [4] (fun i wr => ∃ (k : Nat) (f : Nat → Value), k ≤ n ∧ i = .int .i64 k ∧ wr.rowIs w.heap.size 5 n f ∧ (∀ j, j < k → f j = .int .u8 (Z j)) ∧ Below w.heap.size w wr) (fun i _ => n - (intOf i).toNat)
  case atStart => exact ⟨0, _, Nat.zero_le _, rfl, made_row w _ n 5, fun j hj => absurd hj (Nat.not_lt_zero _), (Below.refl _ _).alloc (Nat.le_refl _) _⟩
  case round =>
    obtain ⟨k, f, hk, rfl, hrow, hf, hb⟩ := hrel
    by_cases hlt : k < n
    · obtain ⟨b, o, hao, hbl, hcell⟩ := ha (by omega)
      have hck := (hb.cell (p := ⟨b, o + k, none⟩) hbl).trans (hcell k hlt)
      simp only [Option.some.injEq] at hao
      subst hao
      clear hcell ha hmk
      have r1 := hrow.cell hlt
      have r2 := hrow.frozen k
      have hrow' := hrow.set k (.int .u8 (Z k))
      have hb' := hb.setCell (p := ⟨w.heap.size, k, none⟩) (Nat.le_refl _) (.int .u8 (Z k))
      have HF : Hid (∀ j, j < k → f j = .int .u8 (Z j)) := hf
      clear hf hrow hb
      go_wp2
      go_roundw
      case rel =>
        refine ⟨k + 1, _, by omega, by go_num, hrow', ?_, hb'⟩
        intro j hj
        by_cases e : j = k
        · simp [e]
        · simp only [e, if_false]; exact HF.out j (by omega)
      case measure => simp [intOf]; omega
    · obtain rfl : k = n := by omega
      clear hmk
      go_wp2
      go_ret
      exact ⟨f, rfl, hrow, hf, hb⟩

set_option maxHeartbeats 1000000 in
theorem skipM_le (r : Nat) (v0 v1 : Value) (size : Int) (w : World) (h : size ≤ 0) (c0 : w.cell? ⟨r, 0, none⟩ = some v0) (c1 : w.cell? ⟨r, 1, none⟩ = some v1) (f0 : w.frozen? ⟨r, 0, none⟩ = false) (f1 : w.frozen? ⟨r, 1, none⟩ = false) :
    Calls Try.prog 15 #[.pointer (some ⟨r, 0, none⟩), .int .i64 size] w fun e w' => e = .returned (.tuple #[]) ∧ (w.setCell ⟨r, 0, none⟩ (.slice none 0 0)).setCell ⟨r, 1, none⟩ (.bool true) = w' := by
  go_enter Try.func15, Try.ntmps15
  go_wp2
  refine bodyPost_ret (results_none rfl _ _ _) rfl ?_
  exact ⟨rfl, rfl⟩

set_option maxHeartbeats 1000000 in
theorem skipM_eq (r g n : Nat) (w : World) (h1 : 1 ≤ n) (h3 : n ≤ 1048576) (c0 : w.cell? ⟨r, 0, none⟩ = some (.slice (some ⟨g, 0, none⟩) n n)) (f0 : w.frozen? ⟨r, 0, none⟩ = false) :
    Calls Try.prog 15 #[.pointer (some ⟨r, 0, none⟩), .int .i64 (n : Int)] w fun e w' => e = .returned (.tuple #[]) ∧ w.setCell ⟨r, 0, none⟩ (.slice (some ⟨g, 0, none⟩) 0 0) = w' := by
  have hk : ¬ (n : Int) ≤ 0 := by omega
  go_enter Try.func15, Try.ntmps15
  go_wp2
  go_end0
  exact ⟨rfl, rfl⟩

set_option maxHeartbeats 1000000 in
theorem skipM_lt (r g n k : Nat) (w : World) (h1 : 1 ≤ k) (h2 : k < n) (c0 : w.cell? ⟨r, 0, none⟩ = some (.slice (some ⟨g, 0, none⟩) n n)) (f0 : w.frozen? ⟨r, 0, none⟩ = false) :
    Calls Try.prog 15 #[.pointer (some ⟨r, 0, none⟩), .int .i64 (k : Int)] w fun e w' => e = .returned (.tuple #[]) ∧ w.setCell ⟨r, 0, none⟩ (.slice (some ⟨g, k, none⟩) (n - k) (n - k)) = w' := by
  have hk : ¬ (k : Int) ≤ 0 := by omega
  have e : ¬ n = k := by omega
  go_enter Try.func15, Try.ntmps15
  go_wp2
  go_end0
  exact ⟨rfl, rfl⟩

set_option maxHeartbeats 1000000 in
theorem skip_le (a : Option Addr) (n c : Nat) (bad : Bool) (size : Int) (w : World) (h : size ≤ 0) :
    Calls Try.prog 13 #[.slice a n c, .bool bad, .int .i64 size] w fun e w' => e = .returned (.tuple #[.slice none 0 0, .bool true]) ∧ Below w.heap.size w w' := by
  go_enter Try.func13, Try.ntmps13
  go_wp2_with fail
  refine (skipM_le w.heap.size _ _ size _ h (cell_new' w _ _ 0 rfl) (cell_new' w _ _ 1 rfl) (by simp) (by simp)).mono ?_
  rintro e w' ⟨rfl, rfl⟩
  go_wp2_with fail
  go_region_held3 (fun w' => w'.cell? ⟨w.heap.size, 0, none⟩ = some (.slice none 0 0) ∧ w'.cell? ⟨w.heap.size, 1, none⟩ = some (.bool true)) (go_keep) (fail)
  go_wp2
  go_ret2
  exact ⟨rfl, ((Below.refl _ _).alloc (Nat.le_refl _) _).drew⟩

/-- What ZZSkip hands back where it skips. -/
def RetSkip (w : World) (out : Value) (bad : Bool) (e : Ending) (w' : World) : Prop := e = .returned (.tuple #[out, .bool bad]) ∧ Below w.heap.size w w'

set_option maxHeartbeats 1000000 in
theorem skip_eq (g n : Nat) (bad : Bool) (w : World) (h1 : 1 ≤ n) (h3 : n ≤ 1048576) :
    Calls Try.prog 13 #[.slice (some ⟨g, 0, none⟩) n n, .bool bad, .int .i64 (n : Int)] w fun e w' => RetSkip w (.slice (some ⟨g, 0, none⟩) 0 0) bad e w' := by
  go_enter Try.func13, Try.ntmps13
  go_wp2_with fail
  refine (skipM_eq w.heap.size g n _ h1 h3 (cell_new' w _ _ 0 rfl) (by simp)).mono ?_
  rintro e w' ⟨rfl, rfl⟩
  go_wp2_with fail
  go_region_held3 (fun w' => w'.cell? ⟨w.heap.size, 0, none⟩ = some (.slice (some ⟨g, 0, none⟩) 0 0) ∧ w'.cell? ⟨w.heap.size, 1, none⟩ = some (.bool bad)) (go_keep) (fail)
  go_wp2
  go_ret2
  exact ⟨rfl, ((Below.refl _ _).alloc (Nat.le_refl _) _).drew⟩

set_option maxHeartbeats 1000000 in
theorem skip_lt (g n k : Nat) (bad : Bool) (w : World) (h1 : 1 ≤ k) (h2 : k < n) :
    Calls Try.prog 13 #[.slice (some ⟨g, 0, none⟩) n n, .bool bad, .int .i64 (k : Int)] w fun e w' => RetSkip w (.slice (some ⟨g, k, none⟩) (n - k) (n - k)) bad e w' := by
  go_enter Try.func13, Try.ntmps13
  go_wp2_with fail
  refine (skipM_lt w.heap.size g n k _ h1 h2 (cell_new' w _ _ 0 rfl) (by simp)).mono ?_
  rintro e w' ⟨rfl, rfl⟩
  go_wp2_with fail
  go_region_held3 (fun w' => w'.cell? ⟨w.heap.size, 0, none⟩ = some (.slice (some ⟨g, k, none⟩) (n - k) (n - k)) ∧ w'.cell? ⟨w.heap.size, 1, none⟩ = some (.bool bad)) (go_keep) (fail)
  go_wp2
  go_ret2
  exact ⟨rfl, ((Below.refl _ _).alloc (Nat.le_refl _) _).drew⟩

theorem skip_add (g k m : Nat) (bad : Bool) (w : World) (h1 : 1 ≤ k) (h2 : 0 < m) :
    Calls Try.prog 13 #[.slice (some ⟨g, 0, none⟩) (k + m) (k + m), .bool bad, .int .i64 (k : Int)] w fun e w' => RetSkip w (.slice (some ⟨g, k, none⟩) m m) bad e w' := by
  have := skip_lt g (k + m) k bad w h1 (by omega)
  rw [Nat.add_sub_cancel_left] at this
  exact this

set_option maxHeartbeats 2000000 in
theorem law_any (a : Option Addr) (n c : Nat) (Z : Nat → Int) (bad : Bool) (size : Int) (w : World) (h : Bytes w a n c Z) (hn : n ≤ 9223372036854775807) :
    Calls Try.prog 5 #[.slice a n c, .bool bad, .int .i64 size] w fun e w' => e = .returned (.bool true) ∧ Below w.heap.size w w' := by
  have HB : Hid (Bytes w a n c Z) := h
  have heq := fun w a n c => Lib.run_eql_slice_nil (P := Try.prog) w 25 5 a n c 0 0 Try.underlying25
  clear h
  go_enter Try.func5, Try.ntmps5
  go_wp2_with fail
  refine (bytes11_any a n c bad size _ hn).mono ?_
  rintro e w' ⟨⟨r, rfl⟩, rfl⟩
  cases r with
  | false =>
    go_wp2_with fail
    go_ret
    exact ⟨rfl, Below.refl _ _⟩
  | true =>
  by_cases hb : 1048576 < n
  · have hb' : (1048576 : Int) < (n : Int) := by omega
    go_wp2_with fail
    go_ret
    exact ⟨rfl, Below.refl _ _⟩
  have e1 : decide ((1048576 : Int) < (n : Int)) = false := by simp; omega
  by_cases hs : (n : Int) < size
  · go_wp2_with fail
    go_ret
    exact ⟨rfl, Below.refl _ _⟩
  have e2 : decide ((n : Int) < size) = false := by simp; omega
  cases a with
  | none =>
    obtain ⟨rfl, rfl⟩ := HB.out.nil rfl
    have hs0 : size ≤ 0 := by omega
    have e3 : decide (size ≤ 0) = true := by simpa using hs0
    go_wp2_with fail
    refine (cloneBytes_nil _).mono ?_
    rintro e w' ⟨rfl, rfl⟩
    go_wp2_with fail
    refine (skip_le _ _ _ _ _ _ hs0).mono ?_
    rintro e w1 ⟨rfl, hb1⟩
    go_wp2_with fail
    go_ret
    exact ⟨rfl, hb1⟩
  | some x =>
    go_wp2_with fail
    refine (cloneBytes_some x n c Z _ HB.out (by omega)).mono ?_
    rintro e w1 ⟨f, rfl, hrow, hf, hb1⟩
    by_cases hs0 : size ≤ 0
    · have e3 : decide (size ≤ 0) = true := by simpa using hs0
      clear hf hrow
      go_wp2_with fail
      refine (skip_le _ _ _ _ _ _ hs0).mono ?_
      rintro e w2 ⟨rfl, hb2⟩
      go_wp2_with fail
      go_ret
      exact ⟨rfl, hb1.trans (hb2.mono hb1.size)⟩
    · have e3 : decide (size ≤ 0) = false := by simpa using hs0
      obtain ⟨k, rfl⟩ : ∃ k : Nat, size = (k : Int) := ⟨size.toNat, by omega⟩
      have hz := hrow.lt
      by_cases hkn : n = k
      · subst hkn
        clear hf hrow
        go_wp2_with fail
        refine (skip_eq w.heap.size n bad _ (by omega) (by omega)).mono ?_
        rintro e w2 ⟨rfl, hb2⟩
        have hb3 := hb1.trans (hb2.mono hb1.size)
        clear hb2 hb1
        go_wp2_with fail
        go_loop [9] (fun i => i = .int .i64 0) (fun _ => 0)
        case atStart => rfl
        case round =>
          obtain rfl := hrel
          go_wp2_with fail
          go_ret
          exact ⟨rfl, hb3⟩
      · obtain ⟨m, rfl⟩ : ∃ m, n = k + m := ⟨n - k, by omega⟩
        have hm0 : 0 < m := by omega
        have hcl : ∀ t, t < k + m → w1.cell? ⟨w.heap.size, t, none⟩ = some (.int .u8 (Z t)) := fun t ht => by rw [hrow.cell ht, hf t ht]
        have HC : Hid (∀ t, t < k + m → w1.cell? ⟨w.heap.size, t, none⟩ = some (.int .u8 (Z t))) := hcl
        clear hs hf hrow hkn hcl
        go_wp2_with fail
        refine (skip_add w.heap.size k m bad _ (by omega) (by omega)).mono ?_
        rintro e w2 ⟨rfl, hb2⟩
        have hb3 := hb1.trans (hb2.mono hb1.size)
        have HC2 : Hid (∀ t, t < k + m → w2.cell? ⟨w.heap.size, t, none⟩ = some (.int .u8 (Z t))) := fun t ht => (hb2.cell (p := ⟨w.heap.size, t, none⟩) hz).trans (HC.out t ht)
        clear hb2 hb1 HC
        have hl : ((m : Int) != (k : Int) + (m : Int) - (k : Int)) = false := by simp; omega
        go_wp2_with fail
        go_loopw [9] (fun i wr => ∃ j : Nat, j ≤ m ∧ i = .int .i64 j ∧ Hid (∀ t, t < k + m → wr.cell? ⟨w.heap.size, t, none⟩ = some (.int .u8 (Z t))) ∧ Below w.heap.size w wr) (fun i _ => m - (intOf i).toNat)
        case atStart => exact ⟨0, Nat.zero_le _, rfl, HC2, hb3⟩
        case round =>
          clear HC2 hb3
          obtain ⟨j, hj, rfl, HCr, hbr⟩ := hrel
          by_cases hjm : j < m
          · have hcj := HCr.out (k + j) (by omega)
            have i1 : (0 : Int) ≤ (j : Int) := by omega
            have i2 : (j : Int) < (m : Int) := by omega
            have i3 : (0 : Int) ≤ (k : Int) + (j : Int) := by omega
            have i4 : (k : Int) + (j : Int) < (k : Int) + (m : Int) := by omega
            have i5 : IntKind.i64.wrap ((k : Int) + (j : Int)) = (k : Int) + (j : Int) := by rw [IntKind.wrap_i64]; omega
            have i6 : ((k : Int) + (j : Int)).toNat = k + j := by omega
            go_wp2_with fail
            go_region_held3 (fun w' => w'.cell? ⟨w.heap.size, k + j, none⟩ = some (.int .u8 (Z (k + j)))) (go_keep) (fail)
            go_wp2_with fail
            go_roundw
            case rel => exact ⟨j + 1, by omega, by go_num, fun t ht => HCr.out t ht, hbr.drew⟩
            case measure => simp [intOf]; omega
          · go_wp2_with fail
            go_ret
            exact ⟨rfl, hbr⟩
end Go.Proofs.Qxb6604224a
