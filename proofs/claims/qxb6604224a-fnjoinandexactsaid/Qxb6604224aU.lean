import Derived.Test.Qxb6604224aT
import Derived.Test.Qxb6604224aShelf
import Derived.Laws.Concat
namespace Go.Proofs.Qxb6604224a
open Go.RowKit

/-! ### The plain side -/
def words (S : Nat → ByteArray) (n : Nat) : List ByteArray := (List.range n).map S
theorem words_length (S : Nat → ByteArray) (n : Nat) : (words S n).length = n := by simp [words]
theorem words_get (S : Nat → ByteArray) (n j : Nat) (h : j < n) : (words S n)[j]? = some (S j) := by simp [words, h]
theorem words_succ (S : Nat → ByteArray) (n : Nat) : words S (n + 1) = words S n ++ [S n] := by simp [words, List.range_succ]
theorem words_cons (S : Nat → ByteArray) (n : Nat) : words S (n + 1) = S 0 :: words (fun j => S (j + 1)) n := by
  simp [words, List.range_succ_eq_map, Function.comp_def]

def bl (x : ByteArray) : List UInt8 := x.data.toList
theorem bl_append (x y : ByteArray) : bl (x ++ y) = bl x ++ bl y := by simp [bl, ByteArray.data_append]
theorem bl_mk (l : List UInt8) : bl ⟨l.toArray⟩ = l := by simp [bl]
theorem bl_inj {x y : ByteArray} (h : bl x = bl y) : x = y := by
  apply ByteArray.ext
  apply Array.ext'
  exact h
theorem bl_length (x : ByteArray) : (bl x).length = x.size := by simp [bl]

/-- strings.Join of the first n words. -/
def JW (S : Nat → ByteArray) (n : Nat) (sep : ByteArray) : ByteArray := ⟨(Lib.join ((words S n).map bl) (bl sep)).toArray⟩

theorem bl_JW (S : Nat → ByteArray) (n : Nat) (sep : ByteArray) : bl (JW S n sep) = Lib.join ((words S n).map bl) (bl sep) := bl_mk _

theorem lens_words (S : Nat → ByteArray) (n : Nat) : Lib.lens ((words S n).map bl) = lenTo S n := by
  induction n with
  | zero => rfl
  | succ n ih => rw [words_succ, List.map_append, lenTo, ← ih]; simp [Lib.lens, bl_length]

theorem join_le (xs : List (List UInt8)) (sep : List UInt8) : (Lib.join xs sep).length ≤ sep.length * xs.length + Lib.lens xs := by
  cases xs with
  | nil => simp [Lib.join_nil]
  | cons x r =>
    rw [Lib.join_length, List.length_cons, Nat.mul_succ]
    omega

theorem JW_size (S : Nat → ByteArray) (n : Nat) (sep : ByteArray) : (JW S n sep).size ≤ sep.size * n + lenTo S n := by
  have := join_le ((words S n).map bl) (bl sep)
  rw [← bl_JW, lens_words, bl_length, bl_length, List.length_map, words_length] at this
  exact this

theorem JW_zero (S : Nat → ByteArray) (sep : ByteArray) : JW S 0 sep = ⟨#[]⟩ := rfl
theorem JW_one (S : Nat → ByteArray) (sep : ByteArray) : JW S 1 sep = S 0 := by
  apply bl_inj
  rw [bl_JW]
  simp [words, Lib.join_one]

/-- What joinAnd answers where there are m + 1 words, m ≥ 1. -/
def JA (S : Nat → ByteArray) (m : Nat) : ByteArray := JW S m ⟨#[44, 32]⟩ ++ ⟨#[32, 97, 110, 100, 32]⟩ ++ S m
/-- What joinAnd answers. -/
def J (S : Nat → ByteArray) (n : Nat) : ByteArray := if n < 2 then JW S n ⟨#[]⟩ else JA S (n - 1)

/-! ### strings.Join -/
theorem join_words (b o c n : Nat) (S : Nat → ByteArray) (sep : ByteArray) (w : World) (hc : ∀ i, i < n → w.cell? ⟨b, o + i, none⟩ = some (.string (S i))) (hb : b < w.heap.size) (hn : n ≤ c) (h1 : n ≤ 65536) (h2 : lenTo S n ≤ 1048576) (h3 : sep.size ≤ 2) :
    Calls Try.prog 16 #[.slice (some ⟨b, o, none⟩) n c, .string sep] w fun e w' => e = .returned (.string (JW S n sep)) ∧ Below w.heap.size w w' := by
  have hl : (Lib.join ((words S n).map bl) (bl sep)).length ≤ 140737488355328 := by
    have := JW_size S n sep
    rw [← bl_JW, bl_length]
    have : sep.size * n ≤ 2 * n := Nat.mul_le_mul_right n h3
    omega
  have := Try.strings_Join b o c (words S n) sep w (fun j x hx => by
    have hj : j < n := by
      have := (List.getElem?_eq_some_iff.1 hx).1
      rwa [words_length] at this
    rw [words_get S n j hj, Option.some.injEq] at hx
    rw [hc j hj, hx]) hb (by rw [words_length]; omega) (by rw [words_length]; exact hn) hl
  rw [words_length] at this
  exact this

theorem join_any (a : Option Addr) (n c : Nat) (S : Nat → ByteArray) (sep : ByteArray) (w : World) (h : Strs w a n c S) (h1 : n ≤ 65536) (h2 : lenTo S n ≤ 1048576) (h3 : sep.size ≤ 2) :
    Calls Try.prog 16 #[.slice a n c, .string sep] w fun e w' => e = .returned (.string (JW S n sep)) ∧ Below w.heap.size w w' := by
  rcases Nat.eq_zero_or_pos n with rfl | hn
  · refine (Try.strings_Join_none a c sep w).mono ?_
    rintro e w' ⟨rfl, rfl⟩
    exact ⟨rfl, Below.refl _ _⟩
  · obtain ⟨b, o, rfl, hb, hc⟩ := h.here hn
    exact join_words b o c n S sep w hc hb h.le h1 h2 h3

theorem lenTo_get (S : Nat → ByteArray) (n i : Nat) (h : i < n) : (S i).size ≤ lenTo S n := by
  induction n with
  | zero => omega
  | succ n ih =>
    by_cases e : i = n
    · subst e; simp only [lenTo]; omega
    · have := ih (by omega); simp only [lenTo]; omega

/-! ### joinAnd -/
set_option maxHeartbeats 1000000 in
theorem joinAnd_two (b o c m : Nat) (S : Nat → ByteArray) (w : World) (hc : ∀ i, i < m + 1 → w.cell? ⟨b, o + i, none⟩ = some (.string (S i))) (hb : b < w.heap.size) (h0 : 1 ≤ m) (hn : m + 1 ≤ c) (h1 : m + 1 ≤ 65536) (h2 : lenTo S (m + 1) ≤ 1048576) :
    Calls Try.prog 14 #[.slice (some ⟨b, o, none⟩) (m + 1) c] w fun e w' => e = .returned (.string (JA S m)) ∧ Below w.heap.size w w' := by
  have hm := hc m (by omega)
  have HC : Hid (∀ i, i < m → w.cell? ⟨b, o + i, none⟩ = some (.string (S i))) := fun i hi => hc i (by omega)
  have hz := JW_size S m ⟨#[44, 32]⟩
  have hz2 : (⟨#[44, 32]⟩ : ByteArray).size = 2 := rfl
  have hz5 : (⟨#[32, 97, 110, 100, 32]⟩ : ByteArray).size = 5 := rfl
  rw [hz2] at hz
  have hsm : (S m).size ≤ 1048576 := Nat.le_trans (lenTo_get S (m + 1) m (by omega)) h2
  have hlm : lenTo S m ≤ 1048576 := by have : lenTo S m ≤ lenTo S (m + 1) := Nat.le_add_right _ _; omega
  have ha1 := fun w => run_string_add_sum (P := Try.prog) w (JW S m ⟨#[44, 32]⟩) ⟨#[32, 97, 110, 100, 32]⟩ (by omega)
  have ha2 := fun w => run_string_add_sum (P := Try.prog) w (JW S m ⟨#[44, 32]⟩ ++ ⟨#[32, 97, 110, 100, 32]⟩) (S m) (by rw [ByteArray.size_append]; omega)
  have e0 : ¬ ((m : Int) + 1 < 2) := by omega
  have e1 : IntKind.i64.wrap ((m : Int) + 1 - 1) = (m : Int) := by rw [IntKind.wrap_i64]; omega
  have e2 : IntKind.i64.wrap (m : Int) = (m : Int) := by rw [IntKind.wrap_i64]; omega
  have e3 : (m : Int).toNat = m := by omega
  have i1 : (0 : Int) ≤ (m : Int) := by omega
  have i2 : (m : Int) < (m : Int) + 1 := by omega
  have i3 : (m : Int) ≤ (c : Int) := by omega
  have i4 : ¬ (c < m) := by omega
  have i5 : ¬ ((m : Int) < 0) := by omega
  have i6 : ¬ ((c : Int) < (m : Int)) := by omega
  clear hc hz hz2 hz5
  go_enter Try.func14, Try.ntmps14
  go_wp2_with fail
  go_region_held3 (fun w' => w'.cell? ⟨b, o + m, none⟩ = some (.string (S m)))
    (first | (exact (hb1.cell (p := ⟨b, o + m, none⟩) (by simpa using hb)).trans (by simpa using hm)) | go_keep)
    (first | (go_at_call 16; refine (join_words b o c m S ⟨#[44, 32]⟩ _ ?_ ?_ ?_ ?_ ?_ ?_).mono ?_; (exact HC.out); (exact hb); (omega); (omega); (omega); (decide); rintro e w1 ⟨rfl, hb1⟩))
  go_wp2_with fail
  go_ret
  exact ⟨rfl, (Below.refl _ _).drew.trans hb1⟩

theorem joinAnd_any (a : Option Addr) (n c : Nat) (S : Nat → ByteArray) (w : World) (h : Strs w a n c S) (h1 : n ≤ 65536) (h2 : lenTo S n ≤ 1048576) :
    Calls Try.prog 14 #[.slice a n c] w fun e w' => e = .returned (.string (J S n)) ∧ Below w.heap.size w w' := by
  by_cases hn : n < 2
  · have hj : J S n = JW S n ⟨#[]⟩ := if_pos hn
    rw [hj]
    have e0 : (n : Int) < 2 := by omega
    go_enter Try.func14, Try.ntmps14
    go_wp2_with fail
    refine (join_any a n c S ⟨#[]⟩ _ h h1 h2 (by decide)).mono ?_
    rintro e w1 ⟨rfl, hb1⟩
    go_wp2_with fail
    go_ret
    exact ⟨rfl, hb1⟩
  · have hj : J S n = JA S (n - 1) := if_neg hn
    rw [hj]
    obtain ⟨m, rfl⟩ : ∃ m, n = m + 1 := ⟨n - 1, by omega⟩
    obtain ⟨b, o, rfl, hb, hc⟩ := h.here (by omega)
    exact joinAnd_two b o c m S w hc hb (by omega) h.le h1 h2

theorem zz_any (a : Option Addr) (n c : Nat) (S : Nat → ByteArray) (w : World) (h : Strs w a n c S) (h1 : n ≤ 65536) (h2 : lenTo S n ≤ 1048576) :
    Calls Try.prog 9 #[.slice a n c] w fun e w' => e = .returned (.string (J S n)) ∧ Below w.heap.size w w' := by
  go_enter Try.func9, Try.ntmps9
  go_wp2_with fail
  refine (joinAnd_any a n c S _ h h1 h2).mono ?_
  rintro e w1 ⟨rfl, hb1⟩
  go_wp2_with fail
  go_ret
  exact ⟨rfl, hb1⟩

/-! ### The plain law of joinAnd: it unfolds by one word -/
theorem J_zero (S : Nat → ByteArray) : J S 0 = ⟨#[]⟩ := rfl
theorem J_one (S : Nat → ByteArray) : J S 1 = S 0 := by
  show JW S 1 _ = _
  rw [JW_one]
theorem J_two (S : Nat → ByteArray) : J S 2 = S 0 ++ ⟨#[32, 97, 110, 100, 32]⟩ ++ S 1 := by
  show JW S 1 _ ++ _ ++ S 1 = _
  rw [JW_one]
theorem J_more (S : Nat → ByteArray) (m : Nat) : J S (m + 3) = S 0 ++ ⟨#[44, 32]⟩ ++ J (fun j => S (j + 1)) (m + 2) := by
  have e1 : J S (m + 3) = JA S (m + 2) := if_neg (by omega)
  have e2 : J (fun j => S (j + 1)) (m + 2) = JA (fun j => S (j + 1)) (m + 1) := if_neg (by omega)
  rw [e1, e2]
  apply bl_inj
  simp only [JA, bl_append, bl_JW]
  rw [words_cons S (m + 1), words_cons (fun j => S (j + 1)) m]
  simp only [List.map_cons, Lib.join_cons, Lib.joinTail, List.flatten_cons, List.append_assoc]
theorem J_size (S : Nat → ByteArray) (n : Nat) : (J S n).size ≤ 2 * n + 5 + lenTo S n := by
  by_cases hn : n < 2
  · have hj : J S n = JW S n ⟨#[]⟩ := if_pos hn
    rw [hj]
    have := JW_size S n ⟨#[]⟩
    have h0 : (⟨#[]⟩ : ByteArray).size = 0 := rfl
    rw [h0, Nat.zero_mul] at this
    omega
  · obtain ⟨m, rfl⟩ : ∃ m, n = m + 1 := ⟨n - 1, by omega⟩
    have hj : J S (m + 1) = JA S m := if_neg hn
    rw [hj, JA, ByteArray.size_append, ByteArray.size_append]
    have := JW_size S m ⟨#[44, 32]⟩
    have h0 : (⟨#[44, 32]⟩ : ByteArray).size = 2 := rfl
    have h5 : (⟨#[32, 97, 110, 100, 32]⟩ : ByteArray).size = 5 := rfl
    rw [h0] at this
    rw [h5]
    simp only [lenTo]
    omega
end Go.Proofs.Qxb6604224a
