import Derived.Test.Qxb6604078aW3
namespace Go.Proofs.Qxb6604078a
open Go.RowKit

/-- How many figures the first m conditions name. -/
def ofSum (C : Nat → CondV) : Nat → Nat
  | 0 => 0
  | m + 1 => ofSum C m + (C m).on
/-- How many figures the conditions of the first k thresholds name. -/
def thrSum (T : Nat → ThrV) : Nat → Nat
  | 0 => 0
  | k + 1 => thrSum T k + ofSum (T k).C (T k).cn

/-- A bool comes back; where it is true the figures are few. -/
def RetCnt (T : Nat → ThrV) (n : Nat) (e : Ending) : Prop := ∃ r : Bool, e = .returned (.bool r) ∧ (r = true → thrSum T n ≤ 1048576)
theorem cntF (T : Nat → ThrV) (n : Nat) : RetCnt T n (.returned (.bool false)) := ⟨false, rfl, fun h => by cases h⟩
theorem cntT {T : Nat → ThrV} {n : Nat} (h : thrSum T n ≤ 1048576) : RetCnt T n (.returned (.bool true)) := ⟨true, rfl, fun _ => h⟩

namespace Env
theorem args_five (v0 v1 v2 v3 v4 : Value) : ∀ t u, List.lookup t [(0, v0), (1, v1), (2, v2), (3, v3), (4, v4)] = some u → (#[v0, v1, v2, v3, v4] : Array Value)[t]? = some u := by
  intro t u h
  match t, h with
  | 0, h => simpa using h
  | 1, h => simpa [List.lookup_cons] using h
  | 2, h => simpa [List.lookup_cons] using h
  | 3, h => simpa [List.lookup_cons] using h
  | 4, h => simpa [List.lookup_cons] using h
  | t + 5, h => simp [List.lookup_cons] at h

theorem lw_addn {P : Program} {N : Nat} {env : List (Nat × Value)} {Q : Exit → Act → World → Prop} {w : World} {ops : Array Oper} {rest : List Oper} {ty : TypeId} {pos : String} {after : Array Edge} {d t s : Nat}
    {x y : Int} {t3 : TypeId} (hl : env.lookup t = some (.int .i64 x)) (hs : env.lookup s = some (.int .i64 y)) (h0 : 0 ≤ x + y) (h1 : x + y ≤ 9223372036854775807) (hd : d < N) (h : LW P N ((d, .int .i64 (x + y)) :: env) ops rest Q w) :
    LW P N env ops (⟨some d, .binOp .add t3 (.tmp t) (.tmp s) t3, ty, pos, after, none⟩ :: rest) Q w := by
  have e : IntKind.i64.wrap (x + y) = x + y := by rw [IntKind.wrap_i64]; omega
  refine lw_add hl hs hd ?_
  rw [e]; exact h
end Env
end Go.Proofs.Qxb6604078a
