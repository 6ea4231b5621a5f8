import Derived.Test.Qxb6604224aV
import Derived.Lib.AppendStr
import Derived.Laws.BytesArg
namespace Go.Proofs.Qxb6604224a
open Go.RowKit

/-! ### The plain side -/
/-- What is written ahead of word k of n. -/
def sepAt (n k : Nat) : List UInt8 := if k = 0 then [] else if k + 1 = n then [32, 97, 110, 100, 32] else [44, 32]
/-- The buffer behind k rounds. -/
def buf (S : Nat → ByteArray) (n : Nat) : Nat → List UInt8
  | 0 => []
  | k + 1 => buf S n k ++ sepAt n k ++ bl (S k)

theorem sepAt_le (n k : Nat) : (sepAt n k).length ≤ 5 := by
  unfold sepAt
  split
  · simp
  · split <;> simp

theorem buf_le (S : Nat → ByteArray) (n k : Nat) : (buf S n k).length ≤ 5 * k + lenTo S k := by
  induction k with
  | zero => simp [buf]
  | succ k ih =>
    have := sepAt_le n k
    simp only [buf, List.length_append, bl_length, lenTo]
    omega

theorem lenTo_mono (S : Nat → ByteArray) {k n : Nat} (h : k ≤ n) : lenTo S k ≤ lenTo S n := by
  induction n with
  | zero => have : k = 0 := by omega
            subst this; exact Nat.le_refl _
  | succ n ih =>
    by_cases e : k = n + 1
    · subst e; exact Nat.le_refl _
    · have := ih (by omega)
      simp only [lenTo]
      omega

theorem join_snoc (x : List UInt8) (r : List (List UInt8)) (y sep : List UInt8) : Lib.join (x :: r ++ [y]) sep = Lib.join (x :: r) sep ++ sep ++ y := by
  rw [List.cons_append, Lib.join_cons, Lib.join_cons]
  simp [Lib.joinTail]

theorem buf_join (S : Nat → ByteArray) (n k : Nat) (h : k < n) : buf S n k = Lib.join ((words S k).map bl) [44, 32] := by
  induction k with
  | zero => rfl
  | succ k ih =>
    rw [buf, ih (by omega), words_succ, List.map_append]
    cases k with
    | zero => simp [sepAt, words, Lib.join_nil, Lib.join_one]
    | succ k =>
      have hs : sepAt n (k + 1) = [44, 32] := by unfold sepAt; rw [if_neg (by omega), if_neg (by omega)]
      rw [hs, words_cons, List.map_cons]
      exact (join_snoc _ _ _ _).symm

theorem J_buf (S : Nat → ByteArray) (n : Nat) : J S n = ⟨(buf S n n).toArray⟩ := by
  apply bl_inj
  refine Eq.trans ?_ (bl_mk _).symm
  match n with
  | 0 => rfl
  | 1 => rw [J_one]; simp [buf, sepAt]
  | m + 2 =>
    have e1 : J S (m + 2) = JA S (m + 1) := if_neg (by omega)
    have hs : sepAt (m + 2) (m + 1) = [32, 97, 110, 100, 32] := by unfold sepAt; rw [if_neg (by omega), if_pos rfl]
    rw [e1, buf, buf_join S (m + 2) (m + 1) (by omega), hs]
    simp only [JA, bl_append, bl_JW]
    rfl

/-! ### The bytes of an owned row as a string -/
theorem byteCells_get (L : List UInt8) (j : Nat) (h : j < L.length) : (Lib.byteCells L)[j]? = some (.int .u8 ((L.map (fun b => (b.toNat : Int))).getD j 0)) := by
  simp [Lib.byteCells, h]

theorem conv_own (w : World) (B : Nat) (v : Value) (L : List UInt8) (h : w.ownsRow B 5 1 v L.length (Lib.byteCells L)) : (convert 25 9 v).run Try.prog w = .ok (.string ⟨L.toArray⟩) w := by
  rcases h.2 with ⟨rfl, h0⟩ | ⟨g, cap, cur, rfl, _⟩
  · obtain rfl := List.eq_nil_of_length_eq_zero h0
    exact run_convert_bytes_nil w 25 5 Try.underlying25 Try.underlying5 0 0 9 Try.underlying9
  · have hcl := h.cells (g := g) rfl
    have := run_convert_bytes_arg (P := Try.prog) w 25 5 Try.underlying25 Try.underlying5 g 0 L.length cap (L.map (fun b => (b.toNat : Int))) (by simp) (fun i hi => by
      have := hcl i _ (byteCells_get L i hi)
      rw [Addr.add_lit] at this
      exact this) 9 Try.underlying9
    rw [this]
    congr 2
    simp [strOfNums, Function.comp_def]

theorem own_later {w w' : World} {B : Nat} {v : Value} {n : Nat} {xs : List Value} (h : w.ownsRow B 5 1 v n xs) (hb : Below w.heap.size w w') : w'.ownsRow B 5 1 v n xs := by
  refine ⟨h.1, ?_⟩
  rcases h.2 with h2 | ⟨g, cap, cur, e1, e2, e3, e4⟩
  · exact .inl h2
  · exact .inr ⟨g, cap, cur, e1, e2, (hb.block g (Array.getElem?_eq_some_iff.1 e3).1).trans e3, e4⟩

theorem own_grown {w w0 w' : World} {B : Nat} {v : Value} {n : Nat} {xs : List Value} (h : w.ownsRow B 5 1 v n xs) (hb : Below B w0 w) (hz : B ≤ w.heap.size) (hg : w.grownBy w' v.ownBlock) : Below B w0 w' := by
  refine hb.grown hg hz fun k hk => ?_
  rcases h.2 with ⟨rfl, _⟩ | ⟨g, cap, cur, rfl, e2, _⟩
  · cases hk
  · simp only [Value.ownBlock, Option.some.injEq] at hk
    omega

theorem own_cast {w : World} {B : Nat} {v : Value} {n : Nat} {xs : List Value} {L : List UInt8} (h : w.ownsRow B 5 1 v n xs) (e : xs = Lib.byteCells L) : w.ownsRow B 5 1 v L.length (Lib.byteCells L) := by
  have h1 := h.1
  rw [e, Lib.byteCells_length, Nat.mul_one] at h1
  rw [e, ← h1] at h
  exact h
theorem byteCells_app (L : List UInt8) (s : ByteArray) : Lib.byteCells L ++ Lib.strCells s = Lib.byteCells (L ++ bl s) := by
  simp [Lib.byteCells, Lib.strCells, bl]
end Go.Proofs.Qxb6604224a
