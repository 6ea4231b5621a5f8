import Derived.Test.Qxb6604078aW3
namespace Go.Proofs.Qxb6604078a
open Go.RowKit

/-! ### The board's vote: pointers -/

/-- A headcount, or none. -/
def HC (w : World) (p : Option Addr) : Prop :=
  p = none ∨ ∃ b o, p = some ⟨b, o, none⟩ ∧ b < w.heap.size ∧ ∃ (n : Int) (f d : ByteArray), w.cell? ⟨b, o, none⟩ = some (.int .i64 n) ∧ w.cell? ⟨b, o + 1, none⟩ = some (.string f) ∧ w.cell? ⟨b, o + 2, none⟩ = some (.string d) ∧ f.size ≤ 9223372036854775807 ∧ d.size ≤ 9223372036854775807

/-- A board's vote, or none. -/
def BV (w : World) (p : Option Addr) : Prop :=
  p = none ∨ ∃ b o, p = some ⟨b, o, none⟩ ∧ b < w.heap.size ∧ ∃ pq pa pd : Option Addr, w.cell? ⟨b, o, none⟩ = some (.pointer pq) ∧ w.cell? ⟨b, o + 1, none⟩ = some (.pointer pa) ∧ w.cell? ⟨b, o + 2, none⟩ = some (.pointer pd) ∧ HC w pq ∧ HC w pa ∧ HC w pd

theorem HC.later {w w' : World} {p : Option Addr} (h : HC w p) (hb : Below w.heap.size w w') : HC w' p := by
  rcases h with h | ⟨b, o, e, hl, n, f, d, c0, c1, c2, s0, s1⟩
  · exact .inl h
  · exact .inr ⟨b, o, e, Nat.lt_of_lt_of_le hl hb.size, n, f, d, (hb.cell (p := ⟨b, o, none⟩) hl).trans c0, (hb.cell (p := ⟨b, o + 1, none⟩) hl).trans c1, (hb.cell (p := ⟨b, o + 2, none⟩) hl).trans c2, s0, s1⟩

theorem BV.later {w w' : World} {p : Option Addr} (h : BV w p) (hb : Below w.heap.size w w') : BV w' p := by
  rcases h with h | ⟨b, o, e, hl, pq, pa, pd, c0, c1, c2, h0, h1, h2⟩
  · exact .inl h
  · exact .inr ⟨b, o, e, Nat.lt_of_lt_of_le hl hb.size, pq, pa, pd, (hb.cell (p := ⟨b, o, none⟩) hl).trans c0, (hb.cell (p := ⟨b, o + 1, none⟩) hl).trans c1, (hb.cell (p := ⟨b, o + 2, none⟩) hl).trans c2, h0.later hb, h1.later hb, h2.later hb⟩

namespace Env
theorem sz73 : ∀ w, (sizeOf 73).run Try.prog w = .ok 1 w := fun _ => by kernel_rfl
theorem ag73 : ∀ w, (isAgg 73).run Try.prog w = .ok false w := fun _ => by kernel_rfl

theorem args_six (v0 v1 v2 v3 v4 v5 : Value) : ∀ t u, List.lookup t [(0, v0), (1, v1), (2, v2), (3, v3), (4, v4), (5, v5)] = some u → (#[v0, v1, v2, v3, v4, v5] : Array Value)[t]? = some u := by
  intro t u h
  match t, h with
  | 0, h => simpa using h
  | 1, h => simpa [List.lookup_cons] using h
  | 2, h => simpa [List.lookup_cons] using h
  | 3, h => simpa [List.lookup_cons] using h
  | 4, h => simpa [List.lookup_cons] using h
  | 5, h => simpa [List.lookup_cons] using h
  | t + 6, h => simp [List.lookup_cons] at h

section
variable {P : Program} {N : Nat} {env : List (Nat × Value)} {Q : Exit → Act → World → Prop} {w : World} {ops : Array Oper} {rest : List Oper}
variable {ty : TypeId} {pos : String} {after : Array Edge} {d t s : Nat}

/-- THE WAYS THROUGH A STATEMENT MEET AGAIN: one slot holds some number, the others stand. -/
theorem cw_cut {x y : Code} {z : Nat} {fix : List (Nat × Value)} (_hs : Sub env fix)
    (hx : ∀ K : Exit → Act → World → Prop, (∀ e, e ≠ .normal → ∀ a w, Q e a w → K e a w) → (∀ env' q, env'.lookup z = some (.int .i64 q) → Sub env' fix → PW N env' K w .normal) → CW P N env x K w)
    (hy : ∀ q, CW P N ((z, .int .i64 q) :: fix) y Q w) : CW P N env (.seq x y) Q w := by
  refine cw_seq (hx _ ?_ ?_)
  · intro e he a w hq
    cases e with
    | normal => exact absurd rfl he
    | exit id => exact hq
    | goto l => exact hq
    | ret => exact hq
    | panic ch => exact hq
    | outgrown => exact hq
  · intro env' q hz hs
    exact pw_then (cw_sub (sub_cons hz hs) (hy q))

theorem lw_neqNil {p : Option Addr} {T e : TypeId} (hl : env.lookup t = some (.pointer p)) (hu : P.underlying T = some (.pointer e)) (hd : d < N) (h : LW P N ((d, .bool p.isSome) :: env) ops rest Q w) :
    LW P N env ops (⟨some d, .binOp .neq T (.tmp t) (.const (.pointer none)) T, ty, pos, after, none⟩ :: rest) Q w :=
  lw_op rfl rfl hd (fun a ha => by
    have h1 := eval_tmp hl ha
    have h2 : a.eval (.const (.pointer none)) = .pointer none := rfl
    have h3 : P.underlying T = some (.pointer (P.pointee T)) := by rw [hu]; simp [Program.pointee, hu]
    generalize a.eval = r at h1 h2 ⊢
    have h4 := run_neq_pointer_nil (P := P) w T p h3
    cases p <;> simp_all [execOp, eqGuard]) h

theorem lw_nilCheck {x : Addr} (hl : env.lookup t = some (.pointer (some x))) (hd : d < N) (h : LW P N ((d, .pointer (some x)) :: env) ops rest Q w) :
    LW P N env ops (⟨some d, .nilCheck (.tmp t), ty, pos, after, none⟩ :: rest) Q w :=
  lw_op rfl rfl hd (fun a ha => by
    have h1 := eval_tmp hl ha
    generalize a.eval = r at h1 ⊢
    simp [execOp, h1]) h

theorem f75_0 {b o : Nat} (hl : env.lookup t = some (.pointer (some ⟨b, o, none⟩))) (hd : d < N) (h : LW Try.prog N ((d, .pointer (some ⟨b, o, none⟩)) :: env) ops rest Q w) : LW Try.prog N env ops (⟨some d, .fieldAddr 75 (.tmp t) 0, ty, pos, after, none⟩ :: rest) Q w :=
  lw_field hl Try.underlying75 rfl rfl ⟨1, sz73, by decide⟩ hd h
theorem f75_1 {b o : Nat} (hl : env.lookup t = some (.pointer (some ⟨b, o, none⟩))) (hd : d < N) (h : LW Try.prog N ((d, .pointer (some ⟨b, o + 1, none⟩)) :: env) ops rest Q w) : LW Try.prog N env ops (⟨some d, .fieldAddr 75 (.tmp t) 1, ty, pos, after, none⟩ :: rest) Q w :=
  lw_field hl Try.underlying75 rfl rfl ⟨1, sz73, by decide⟩ hd h
theorem f75_2 {b o : Nat} (hl : env.lookup t = some (.pointer (some ⟨b, o, none⟩))) (hd : d < N) (h : LW Try.prog N ((d, .pointer (some ⟨b, o + 2, none⟩)) :: env) ops rest Q w) : LW Try.prog N env ops (⟨some d, .fieldAddr 75 (.tmp t) 2, ty, pos, after, none⟩ :: rest) Q w :=
  lw_field hl Try.underlying75 rfl rfl ⟨1, sz73, by decide⟩ hd h
theorem f77_1 {b o : Nat} (hl : env.lookup t = some (.pointer (some ⟨b, o, none⟩))) (hd : d < N) (h : LW Try.prog N ((d, .pointer (some ⟨b, o + 1, none⟩)) :: env) ops rest Q w) : LW Try.prog N env ops (⟨some d, .fieldAddr 77 (.tmp t) 1, ty, pos, after, none⟩ :: rest) Q w :=
  lw_field hl Try.underlying77 rfl rfl ⟨1, sz9, by decide⟩ hd h
theorem f77_2 {b o : Nat} (hl : env.lookup t = some (.pointer (some ⟨b, o, none⟩))) (hd : d < N) (h : LW Try.prog N ((d, .pointer (some ⟨b, o + 2, none⟩)) :: env) ops rest Q w) : LW Try.prog N env ops (⟨some d, .fieldAddr 77 (.tmp t) 2, ty, pos, after, none⟩ :: rest) Q w :=
  lw_field hl Try.underlying77 rfl rfl ⟨1, sz9, by decide⟩ hd h
end
end Env
end Go.Proofs.Qxb6604078a
