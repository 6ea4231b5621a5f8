import Derived.Test.Qxb6604078aA
import Derived.Deep.OwnRows
namespace Go.Proofs.Qxb6604078a
open Go.RowKit

/-- What a 'make' lays. -/
def madeObj (z : Value) (m : Nat) (e : TypeId) : Obj := .cells (madeCells z.cells m) e

theorem make_eq {P : Program} (t e : TypeId) (z : Value) (size bytes : Nat) (ht : P.underlying t = some (.slice e)) (hinfo : (P.info? e).map (fun i => (i.zero, i.size, i.bytes)) = some (some z, size, bytes))
    (n : Nat) (hbytes : bytes * n ≤ 281474976710656) (h63 : n ≤ 9223372036854775807) (w : World) :
    (Instr.makeSlice t (.int .i64 (n : Int)) (.int .i64 (n : Int))).run P w = .ok (.slice (some ⟨w.heap.size, 0, none⟩) n n) (w.alloc (madeObj z (n * size) e)) := by
  obtain ⟨i, hi, hzz⟩ := Option.map_eq_some_iff.1 hinfo
  simp only [Prod.mk.injEq] at hzz
  obtain ⟨hz, hs, hb⟩ := hzz
  have hb' : (i.bytes : Int) * (n : Int) ≤ 281474976710656 := by
    rw [hb]
    have h : ((bytes * n : Nat) : Int) ≤ 281474976710656 := by omega
    rwa [Int.natCast_mul] at h
  have hr := run_make (P := P) w t e i z ht hi hz .i64 .i64 n n (by omega) (Int.le_refl _) hb' (by omega)
  simp only [Int.toNat_natCast, hs] at hr
  exact hr

/-- What a 'make' laid: some row. -/
theorem made_row (w : World) (z : Value) (m : Nat) (e : TypeId) : (w.alloc (madeObj z m e)).rowIs w.heap.size e m (fun i => (madeCells z.cells m).getD i undef) := by
  have h := World.rowIs_alloc w (madeCells z.cells m) e (fun i => (madeCells z.cells m).getD i undef) (fun i hi => by simp [Array.getD, hi])
  rwa [size_madeCells] at h

/-- A slice of the same strings is handed back; nothing that was there has turned. -/
def RetStrs (w : World) (n : Nat) (S : Nat → ByteArray) (e : Ending) (w' : World) : Prop :=
  ∃ a c, e = .returned (.slice a n c) ∧ Strs w.heap.size w' a n c S ∧ Below w.heap.size w w'

theorem strs_of_row {B : Nat} {w : World} {b t n : Nat} {f : Nat → Value} {S : Nat → ByteArray} (hB : B ≤ b) (h : w.rowIs b t n f) (hf : ∀ j, j < n → f j = .string (S j)) (hcap : n * 16 ≤ 140737488351232) (hs : ∀ i, i < n → (S i).size ≤ 9223372036854775807) :
    Strs B w (some ⟨b, 0, none⟩) n n S :=
  ⟨Nat.le_refl _, hcap, fun h => (by cases h), fun _ => ⟨b, 0, rfl, ⟨hB, h.lt⟩, fun i hi => by rw [Nat.zero_add, h.cell hi, hf i hi]⟩, hs⟩

theorem strs_nil {B : Nat} {w : World} (S : Nat → ByteArray) : Strs B w none 0 0 S :=
  ⟨Nat.le_refl _, by omega, fun _ => ⟨rfl, rfl⟩, fun h => absurd h (Nat.lt_irrefl _), fun i hi => absurd hi (Nat.not_lt_zero _)⟩

theorem info59 : (Try.prog.info? 59).map (fun i => (i.zero, i.size, i.bytes)) = some (some (.string ⟨#[]⟩), 1, 16) := by kernel_rfl
theorem info9 : (Try.prog.info? 9).map (fun i => (i.zero, i.size, i.bytes)) = some (some (.string ⟨#[]⟩), 1, 16) := by kernel_rfl

set_option maxHeartbeats 400000 in
theorem kinds_any (a : Option Addr) (n c : Nat) (S : Nat → ByteArray) (w : World) (h : Strs 0 w a n c S) :
    Calls Try.prog 46 #[.slice a n c] w fun e w' => RetStrs w n S e w' := by
  have hc := h.le
  have hm := h.cap
  have hs := h.size
  have ha := h.here
  have hn := h.nil
  have heq := fun w a n c => Lib.run_eql_slice_nil (P := Try.prog) w 51 9 a n c 0 0 Try.underlying51
  cases a with
  | none =>
    obtain ⟨rfl, rfl⟩ := hn rfl
    clear h hn ha hs
    go_enter Try.func46, Try.ntmps46
    go_wp2
    go_ret
    exact ⟨_, _, rfl, strs_nil S, Below.refl _ _⟩
  | some x =>
    clear h hn
    have hmk := make_eq (P := Try.prog) 61 59 (.string ⟨#[]⟩) 1 16 Try.underlying61 info59 n (by omega) (by omega)
    rw [Nat.mul_one] at hmk
    go_enter Try.func46, Try.ntmps46
    go_wp2
    go_loopw [4] (fun i wr => ∃ (k : Nat) (f : Nat → Value), k ≤ n ∧ i = .int .i64 k ∧ wr.rowIs w.heap.size 59 n f ∧ (∀ j, j < k → f j = .string (S j)) ∧ Below w.heap.size w wr) (fun i _ => n - (intOf i).toNat)
    case atStart =>
      exact ⟨0, _, Nat.zero_le _, rfl, made_row w (Value.string ⟨#[]⟩) n 59, fun j hj => absurd hj (Nat.not_lt_zero _), (Below.refl _ _).alloc (Nat.le_refl _) _⟩
    case round =>
      obtain ⟨k, f, hk, rfl, hrow, hf, hb⟩ := hrel
      by_cases hlt : k < n
      · obtain ⟨b, o, hao, hbl, hcell⟩ := ha (by omega)
        have hck := (hb.cell (p := ⟨b, o + k, none⟩) hbl.2).trans (hcell k hlt)
        simp only [Option.some.injEq] at hao
        subst hao
        clear hcell ha hs hmk
        have r1 := hrow.cell hlt
        have r2 := hrow.frozen k
        have hrow' := hrow.set k (.string (S k))
        have hb' := hb.setCell (p := ⟨w.heap.size, k, none⟩) (Nat.le_refl _) (.string (S k))
        have HF : Hid (∀ j, j < k → f j = .string (S j)) := hf
        clear hf hrow hb
        go_wp2
        go_roundw
        case rel =>
          refine ⟨k + 1, _, by omega, by go_num, hrow', ?_, hb'⟩
          intro j hj
          by_cases e : j = k
          · simp [e]
          · simp only [e, if_false]; exact HF.out j (by omega)
        case measure => simp [intOf]; omega
      · have hkn : n = k := by omega
        clear hmk
        go_wp2
        go_ret
        exact ⟨_, _, rfl, strs_of_row (Nat.le_refl _) hrow (fun j hj => hf j (by omega)) (by omega) hs, hb⟩
set_option maxHeartbeats 400000 in
theorem copyStrings_any (a : Option Addr) (n c : Nat) (S : Nat → ByteArray) (w : World) (h : Strs 0 w a n c S) :
    Calls Try.prog 49 #[.slice a n c] w fun e w' => RetStrs w n S e w' := by
  have hc := h.le
  have hm := h.cap
  have hs := h.size
  have ha := h.here
  have hn := h.nil
  have heq := fun w a n c => Lib.run_eql_slice_nil (P := Try.prog) w 51 9 a n c 0 0 Try.underlying51
  cases a with
  | none =>
    obtain ⟨rfl, rfl⟩ := hn rfl
    clear h hn ha hs
    go_enter Try.func49, Try.ntmps49
    go_wp2
    go_ret
    exact ⟨_, _, rfl, strs_nil S, Below.refl _ _⟩
  | some x =>
    clear h hn
    have hmk := make_eq (P := Try.prog) 51 9 (.string ⟨#[]⟩) 1 16 Try.underlying51 info9 n (by omega) (by omega)
    rw [Nat.mul_one] at hmk
    go_enter Try.func49, Try.ntmps49
    go_wp2
    go_loopw [4] (fun i wr => ∃ (k : Nat) (f : Nat → Value), k ≤ n ∧ i = .int .i64 k ∧ wr.rowIs w.heap.size 9 n f ∧ (∀ j, j < k → f j = .string (S j)) ∧ Below w.heap.size w wr) (fun i _ => n - (intOf i).toNat)
    case atStart =>
      exact ⟨0, _, Nat.zero_le _, rfl, made_row w (Value.string ⟨#[]⟩) n 9, fun j hj => absurd hj (Nat.not_lt_zero _), (Below.refl _ _).alloc (Nat.le_refl _) _⟩
    case round =>
      obtain ⟨k, f, hk, rfl, hrow, hf, hb⟩ := hrel
      by_cases hlt : k < n
      · obtain ⟨b, o, hao, hbl, hcell⟩ := ha (by omega)
        have hck := (hb.cell (p := ⟨b, o + k, none⟩) hbl.2).trans (hcell k hlt)
        simp only [Option.some.injEq] at hao
        subst hao
        clear hcell ha hs hmk
        have r1 := hrow.cell hlt
        have r2 := hrow.frozen k
        have hrow' := hrow.set k (.string (S k))
        have hb' := hb.setCell (p := ⟨w.heap.size, k, none⟩) (Nat.le_refl _) (.string (S k))
        have HF : Hid (∀ j, j < k → f j = .string (S j)) := hf
        clear hf hrow hb
        go_wp2
        go_roundw
        case rel =>
          refine ⟨k + 1, _, by omega, by go_num, hrow', ?_, hb'⟩
          intro j hj
          by_cases e : j = k
          · simp [e]
          · simp only [e, if_false]; exact HF.out j (by omega)
        case measure => simp [intOf]; omega
      · have hkn : n = k := by omega
        clear hmk
        go_wp2
        go_ret
        exact ⟨_, _, rfl, strs_of_row (Nat.le_refl _) hrow (fun j hj => hf j (by omega)) (by omega) hs, hb⟩
end Go.Proofs.Qxb6604078a
