import Derived.Test.Qxb6604224aS
namespace Go.Proofs.Qxb6604224a
open Go.RowKit

/-- The strings behind a slice. -/
structure Strs (w : World) (a : Option Addr) (n c : Nat) (S : Nat → ByteArray) : Prop where
  le : n ≤ c
  cap : c * 16 ≤ 140737488351232
  nil : a = none → n = 0 ∧ c = 0
  here : 0 < n → ∃ b o, a = some ⟨b, o, none⟩ ∧ b < w.heap.size ∧ ∀ i, i < n → w.cell? ⟨b, o + i, none⟩ = some (.string (S i))
  size : ∀ i, i < n → (S i).size ≤ 9223372036854775807

theorem Strs.later {w w' : World} {a : Option Addr} {n c : Nat} {S : Nat → ByteArray} (h : Strs w a n c S) (hb : Below w.heap.size w w') : Strs w' a n c S := by
  refine ⟨h.le, h.cap, h.nil, fun hn => ?_, h.size⟩
  obtain ⟨b, o, e, hl, hc⟩ := h.here hn
  exact ⟨b, o, e, Nat.lt_of_lt_of_le hl hb.size, fun i hi => (hb.cell (p := ⟨b, o + i, none⟩) hl).trans (hc i hi)⟩

theorem strs_of_row {w : World} {b t n : Nat} {f : Nat → Value} {S : Nat → ByteArray} (h : w.rowIs b t n f) (hf : ∀ j, j < n → f j = .string (S j)) (hcap : n * 16 ≤ 140737488351232) (hs : ∀ i, i < n → (S i).size ≤ 9223372036854775807) :
    Strs w (some ⟨b, 0, none⟩) n n S :=
  ⟨Nat.le_refl _, hcap, fun h => (by cases h), fun _ => ⟨b, 0, rfl, h.lt, fun i hi => by rw [Nat.zero_add, h.cell hi, hf i hi]⟩, hs⟩

theorem strs_nil {w : World} (S : Nat → ByteArray) : Strs w none 0 0 S :=
  ⟨Nat.le_refl _, by omega, fun _ => ⟨rfl, rfl⟩, fun h => absurd h (Nat.lt_irrefl _), fun i hi => absurd hi (Nat.not_lt_zero _)⟩

/-- The byte guard's answer: where it is true, each string is within the bound. -/
def RetG (n : Nat) (S : Nat → ByteArray) (e : Ending) : Prop := ∃ b : Bool, e = .returned (.bool b) ∧ (b = true → n ≤ 1048576 ∧ ∀ i, i < n → (S i).size ≤ 1048576)
theorem retG_no (n : Nat) (S : Nat → ByteArray) : RetG n S (.returned (.bool false)) := ⟨false, rfl, fun h => by cases h⟩

set_option maxHeartbeats 400000 in
theorem bytes6_any (a : Option Addr) (n c : Nat) (S : Nat → ByteArray) (w : World) (h : Strs w a n c S) :
    Calls Try.prog 6 #[.slice a n c] w fun e w' => RetG n S e ∧ w = w' := by
  have hc := h.le
  have hm := h.cap
  have hs := h.size
  have ha := h.here
  clear h
  by_cases hbig : 1048576 < n
  · have h' : (1048576 : Int) < (n : Int) := by omega
    clear hs ha
    go_enter Try.func6, Try.ntmps6
    go_wp2
    go_ret
    exact ⟨retG_no _ _, rfl⟩
  have h' : ¬ (1048576 : Int) < (n : Int) := by omega
  go_enter Try.func6, Try.ntmps6
  go_wp2
  go_loop [3, 4] (fun z i => ∃ (q : Int) (k : Nat), k ≤ n ∧ z = .int .i64 q ∧ i = .int .i64 k ∧ Hid (∀ j, j < k → (S j).size ≤ 1048576)) (fun _ i => n - (intOf i).toNat)
  case atStart => exact ⟨_, 0, Nat.zero_le _, rfl, rfl, fun j hj => absurd hj (Nat.not_lt_zero _)⟩
  case round =>
    obtain ⟨q, k, hk, rfl, rfl, HF⟩ := hrel
    by_cases hlt : k < n
    · obtain ⟨b, o, hao, _, hcell⟩ := ha (by omega)
      have hck := hcell k hlt
      have hsk := hs k hlt
      subst hao
      clear hcell ha hs
      by_cases hz : 1048576 < (S k).size
      · have hz' : (1048576 : Int) < ((S k).size : Int) := by omega
        go_wp2
        go_ret
        exact ⟨retG_no _ _, rfl⟩
      · have hz' : ¬ (1048576 : Int) < ((S k).size : Int) := by omega
        go_wp2
        · go_ret
          exact ⟨retG_no _ _, rfl⟩
        · go_round
          case rel =>
            refine ⟨_, k + 1, by omega, rfl, by go_num, fun j hj => ?_⟩
            by_cases e : j = k
            · subst e; omega
            · exact HF.out j (by omega)
          case measure => simp [intOf]; omega
    · go_wp2
      go_ret
      exact ⟨⟨true, rfl, fun _ => ⟨by omega, fun j hj => HF.out j (by omega)⟩⟩, rfl⟩
set_option maxHeartbeats 400000 in
theorem bytes10_any (a : Option Addr) (n c : Nat) (S : Nat → ByteArray) (w : World) (h : Strs w a n c S) :
    Calls Try.prog 10 #[.slice a n c] w fun e w' => RetG n S e ∧ w = w' := by
  have hc := h.le
  have hm := h.cap
  have hs := h.size
  have ha := h.here
  clear h
  by_cases hbig : 1048576 < n
  · have h' : (1048576 : Int) < (n : Int) := by omega
    clear hs ha
    go_enter Try.func10, Try.ntmps10
    go_wp2
    go_ret
    exact ⟨retG_no _ _, rfl⟩
  have h' : ¬ (1048576 : Int) < (n : Int) := by omega
  go_enter Try.func10, Try.ntmps10
  go_wp2
  go_loop [3, 4] (fun z i => ∃ (q : Int) (k : Nat), k ≤ n ∧ z = .int .i64 q ∧ i = .int .i64 k ∧ Hid (∀ j, j < k → (S j).size ≤ 1048576)) (fun _ i => n - (intOf i).toNat)
  case atStart => exact ⟨_, 0, Nat.zero_le _, rfl, rfl, fun j hj => absurd hj (Nat.not_lt_zero _)⟩
  case round =>
    obtain ⟨q, k, hk, rfl, rfl, HF⟩ := hrel
    by_cases hlt : k < n
    · obtain ⟨b, o, hao, _, hcell⟩ := ha (by omega)
      have hck := hcell k hlt
      have hsk := hs k hlt
      subst hao
      clear hcell ha hs
      by_cases hz : 1048576 < (S k).size
      · have hz' : (1048576 : Int) < ((S k).size : Int) := by omega
        go_wp2
        go_ret
        exact ⟨retG_no _ _, rfl⟩
      · have hz' : ¬ (1048576 : Int) < ((S k).size : Int) := by omega
        go_wp2
        · go_ret
          exact ⟨retG_no _ _, rfl⟩
        · go_round
          case rel =>
            refine ⟨_, k + 1, by omega, rfl, by go_num, fun j hj => ?_⟩
            by_cases e : j = k
            · subst e; omega
            · exact HF.out j (by omega)
          case measure => simp [intOf]; omega
    · go_wp2
      go_ret
      exact ⟨⟨true, rfl, fun _ => ⟨by omega, fun j hj => HF.out j (by omega)⟩⟩, rfl⟩

/-- The lengths of the first k strings, added up. -/
def lenTo (S : Nat → ByteArray) : Nat → Nat
  | 0 => 0
  | k + 1 => lenTo S k + (S k).size

/-- The words' guard: where it is false, the words are few and short. -/
def RetW (n : Nat) (S : Nat → ByteArray) (e : Ending) : Prop := ∃ b : Bool, e = .returned (.bool b) ∧ (b = false → n ≤ 65536 ∧ lenTo S n ≤ 1048576)
theorem retW_yes (n : Nat) (S : Nat → ByteArray) : RetW n S (.returned (.bool true)) := ⟨true, rfl, fun h => by cases h⟩

set_option maxHeartbeats 400000 in
theorem tooBig_any (a : Option Addr) (n c : Nat) (S : Nat → ByteArray) (w : World) (h : Strs w a n c S) (hs : ∀ i, i < n → (S i).size ≤ 1048576) :
    Calls Try.prog 7 #[.slice a n c] w fun e w' => RetW n S e ∧ w = w' := by
  have hc := h.le
  have hm := h.cap
  have ha := h.here
  clear h
  by_cases hbig : 65536 < n
  · have h' : (65536 : Int) < (n : Int) := by omega
    clear hs ha
    go_enter Try.func7, Try.ntmps7
    go_wp2
    go_ret
    exact ⟨retW_yes _ _, rfl⟩
  have h' : ¬ (65536 : Int) < (n : Int) := by omega
  have hw : IntKind.i64.wrap (16 * (n : Int)) = 16 * (n : Int) := by rw [IntKind.wrap_i64]; omega
  go_enter Try.func7, Try.ntmps7
  go_wp2
  go_loop [3, 4] (fun z i => ∃ (k : Nat) (t : Nat), k ≤ n ∧ z = .int .i64 t ∧ i = .int .i64 k ∧ t ≤ 1048576 ∧ Hid (t = 16 * n + lenTo S k)) (fun _ i => n - (intOf i).toNat)
  case atStart => exact ⟨0, 16 * n, Nat.zero_le _, by simp, rfl, by omega, (rfl : 16 * n = 16 * n + lenTo S 0)⟩
  case round =>
    obtain ⟨k, t, hk, rfl, rfl, ht, HF⟩ := hrel
    clear hw
    by_cases hlt : k < n
    · obtain ⟨b, o, hao, _, hcell⟩ := ha (by omega)
      have hck := hcell k hlt
      have hsk := hs k hlt
      subst hao
      clear hcell ha hs
      by_cases hz : 1048576 < t + (S k).size
      · have hz' : (1048576 : Int) < (t : Int) + ((S k).size : Int) := by omega
        go_wp2
        go_ret
        exact ⟨retW_yes _ _, rfl⟩
      · have hz' : ¬ (1048576 : Int) < (t : Int) + ((S k).size : Int) := by omega
        go_wp2
        go_round
        case rel =>
          exact ⟨k + 1, t + (S k).size, by omega, by go_num, by go_num, by omega, by have := HF.out; show _ = 16 * n + (lenTo S k + (S k).size); omega⟩
        case measure => simp [intOf]; omega
    · go_wp2
      go_ret
      obtain rfl : k = n := by omega
      have := HF.out
      exact ⟨⟨false, rfl, fun _ => ⟨by omega, by omega⟩⟩, rfl⟩

/-- A slice of the same strings is handed back; nothing that was there has turned. -/
def RetStrs (w : World) (n : Nat) (S : Nat → ByteArray) (e : Ending) (w' : World) : Prop :=
  ∃ a c, e = .returned (.slice a n c) ∧ Strs w' a n c S ∧ Below w.heap.size w w'

theorem info9 : (Try.prog.info? 9).map (fun i => (i.zero, i.size, i.bytes)) = some (some (.string ⟨#[]⟩), 1, 16) := by kernel_rfl

set_option maxHeartbeats 400000 in
theorem cloneWords_any (a : Option Addr) (n c : Nat) (S : Nat → ByteArray) (w : World) (h : Strs w a n c S) :
    Calls Try.prog 8 #[.slice a n c] w fun e w' => RetStrs w n S e w' := by
  have hc := h.le
  have hm := h.cap
  have hs := h.size
  have ha := h.here
  have hn := h.nil
  have heq := fun w a n c => Lib.run_eql_slice_nil (P := Try.prog) w 22 9 a n c 0 0 Try.underlying22
  cases a with
  | none =>
    obtain ⟨rfl, rfl⟩ := hn rfl
    clear h hn ha hs
    go_enter Try.func8, Try.ntmps8
    go_wp2
    go_ret
    exact ⟨_, _, rfl, strs_nil S, Below.refl _ _⟩
  | some x =>
    clear h hn
    have hmk := make_eq (P := Try.prog) 22 9 (.string ⟨#[]⟩) 1 16 Try.underlying22 info9 n (by omega) (by omega)
    rw [Nat.mul_one] at hmk
    go_enter Try.func8, Try.ntmps8
    go_wp2
    go_loopw [4] (fun i wr => ∃ (k : Nat) (f : Nat → Value), k ≤ n ∧ i = .int .i64 k ∧ wr.rowIs w.heap.size 9 n f ∧ (∀ j, j < k → f j = .string (S j)) ∧ Below w.heap.size w wr) (fun i _ => n - (intOf i).toNat)
    case atStart =>
      exact ⟨0, _, Nat.zero_le _, rfl, made_row w (Value.string ⟨#[]⟩) n 9, fun j hj => absurd hj (Nat.not_lt_zero _), (Below.refl _ _).alloc (Nat.le_refl _) _⟩
    case round =>
      obtain ⟨k, f, hk, rfl, hrow, hf, hb⟩ := hrel
      by_cases hlt : k < n
      · obtain ⟨b, o, hao, hbl, hcell⟩ := ha (by omega)
        have hck := (hb.cell (p := ⟨b, o + k, none⟩) hbl).trans (hcell k hlt)
        simp only [Option.some.injEq] at hao
        subst hao
        clear hcell ha hs hmk
        have r1 := hrow.cell hlt
        have r2 := hrow.frozen k
        have hrow' := hrow.set k (.string (S k))
        have hb' := hb.setCell (p := ⟨w.heap.size, k, none⟩) (Nat.le_refl _) (.string (S k))
        have HF : Hid (∀ j, j < k → f j = .string (S j)) := hf
        clear hf hrow hb
        go_wp2
        go_roundw
        case rel =>
          refine ⟨k + 1, _, by omega, by go_num, hrow', ?_, hb'⟩
          intro j hj
          by_cases e : j = k
          · simp [e]
          · simp only [e, if_false]; exact HF.out j (by omega)
        case measure => simp [intOf]; omega
      · have hkn : n = k := by omega
        clear hmk
        go_wp2
        go_ret
        exact ⟨_, _, rfl, strs_of_row hrow (fun j hj => hf j (by omega)) (by omega) hs, hb⟩
end Go.Proofs.Qxb6604224a
