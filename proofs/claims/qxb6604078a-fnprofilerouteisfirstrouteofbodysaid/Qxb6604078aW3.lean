import Derived.Test.Qxb6604078aW2
namespace Go.Proofs.Qxb6604078a.Env
open Go.RowKit

theorem sz9 : ∀ w, (sizeOf 9).run Try.prog w = .ok 1 w := fun _ => by kernel_rfl
theorem sz34 : ∀ w, (sizeOf 34).run Try.prog w = .ok 4 w := fun _ => by kernel_rfl
theorem sz54 : ∀ w, (sizeOf 54).run Try.prog w = .ok 2 w := fun _ => by kernel_rfl
theorem sz56 : ∀ w, (sizeOf 56).run Try.prog w = .ok 4 w := fun _ => by kernel_rfl
theorem sz71 : ∀ w, (sizeOf 71).run Try.prog w = .ok 2 w := fun _ => by kernel_rfl
theorem sz72 : ∀ w, (sizeOf 72).run Try.prog w = .ok 2 w := fun _ => by kernel_rfl
theorem sz31 : ∀ w, (sizeOf 31).run Try.prog w = .ok 1 w := fun _ => by kernel_rfl
theorem sz32 : ∀ w, (sizeOf 32).run Try.prog w = .ok 1 w := fun _ => by kernel_rfl
theorem sz51 : ∀ w, (sizeOf 51).run Try.prog w = .ok 1 w := fun _ => by kernel_rfl
theorem sz52 : ∀ w, (sizeOf 52).run Try.prog w = .ok 1 w := fun _ => by kernel_rfl
theorem ag9 : ∀ w, (isAgg 9).run Try.prog w = .ok false w := fun _ => by kernel_rfl
theorem ag31 : ∀ w, (isAgg 31).run Try.prog w = .ok false w := fun _ => by kernel_rfl
theorem ag32 : ∀ w, (isAgg 32).run Try.prog w = .ok false w := fun _ => by kernel_rfl
theorem ag51 : ∀ w, (isAgg 51).run Try.prog w = .ok false w := fun _ => by kernel_rfl
theorem ag52 : ∀ w, (isAgg 52).run Try.prog w = .ok false w := fun _ => by kernel_rfl

theorem args_one (v : Value) : ∀ t u, List.lookup t [(0, v)] = some u → (#[v] : Array Value)[t]? = some u := by
  intro t u h
  by_cases e : t = 0
  · subst e
    simpa using h
  · have : (t == 0) = false := by simpa using e
    simp [List.lookup_cons, this] at h

section
variable {N : Nat} {env : List (Nat × Value)} {Q : Exit → Act → World → Prop} {w : World} {ops : Array Oper} {rest : List Oper}
variable {ty : TypeId} {pos : String} {after : Array Edge} {d t s : Nat}

/-! the fields on the roads, each at its type -/
theorem f34_0 {b o : Nat} (hl : env.lookup t = some (.pointer (some ⟨b, o, none⟩))) (hd : d < N) (h : LW Try.prog N ((d, .pointer (some ⟨b, o, none⟩)) :: env) ops rest Q w) : LW Try.prog N env ops (⟨some d, .fieldAddr 34 (.tmp t) 0, ty, pos, after, none⟩ :: rest) Q w :=
  lw_field hl Try.underlying34 rfl rfl ⟨1, sz9, by decide⟩ hd h
theorem f34_1 {b o : Nat} (hl : env.lookup t = some (.pointer (some ⟨b, o, none⟩))) (hd : d < N) (h : LW Try.prog N ((d, .pointer (some ⟨b, o + 1, none⟩)) :: env) ops rest Q w) : LW Try.prog N env ops (⟨some d, .fieldAddr 34 (.tmp t) 1, ty, pos, after, none⟩ :: rest) Q w :=
  lw_field hl Try.underlying34 rfl rfl ⟨1, sz9, by decide⟩ hd h
theorem f34_2 {b o : Nat} (hl : env.lookup t = some (.pointer (some ⟨b, o, none⟩))) (hd : d < N) (h : LW Try.prog N ((d, .pointer (some ⟨b, o + 2, none⟩)) :: env) ops rest Q w) : LW Try.prog N env ops (⟨some d, .fieldAddr 34 (.tmp t) 2, ty, pos, after, none⟩ :: rest) Q w :=
  lw_field hl Try.underlying34 rfl rfl ⟨1, sz31, by decide⟩ hd h
theorem f34_3 {b o : Nat} (hl : env.lookup t = some (.pointer (some ⟨b, o, none⟩))) (hd : d < N) (h : LW Try.prog N ((d, .pointer (some ⟨b, o + 3, none⟩)) :: env) ops rest Q w) : LW Try.prog N env ops (⟨some d, .fieldAddr 34 (.tmp t) 3, ty, pos, after, none⟩ :: rest) Q w :=
  lw_field hl Try.underlying34 rfl rfl ⟨1, sz32, by decide⟩ hd h
theorem f54_0 {b o : Nat} (hl : env.lookup t = some (.pointer (some ⟨b, o, none⟩))) (hd : d < N) (h : LW Try.prog N ((d, .pointer (some ⟨b, o, none⟩)) :: env) ops rest Q w) : LW Try.prog N env ops (⟨some d, .fieldAddr 54 (.tmp t) 0, ty, pos, after, none⟩ :: rest) Q w :=
  lw_field hl Try.underlying54 rfl rfl ⟨1, sz51, by decide⟩ hd h
theorem f54_1 {b o : Nat} (hl : env.lookup t = some (.pointer (some ⟨b, o, none⟩))) (hd : d < N) (h : LW Try.prog N ((d, .pointer (some ⟨b, o + 1, none⟩)) :: env) ops rest Q w) : LW Try.prog N env ops (⟨some d, .fieldAddr 54 (.tmp t) 1, ty, pos, after, none⟩ :: rest) Q w :=
  lw_field hl Try.underlying54 rfl rfl ⟨1, sz52, by decide⟩ hd h
theorem f56_0 {b o : Nat} (hl : env.lookup t = some (.pointer (some ⟨b, o, none⟩))) (hd : d < N) (h : LW Try.prog N ((d, .pointer (some ⟨b, o, none⟩)) :: env) ops rest Q w) : LW Try.prog N env ops (⟨some d, .fieldAddr 56 (.tmp t) 0, ty, pos, after, none⟩ :: rest) Q w :=
  lw_field hl Try.underlying56 rfl rfl ⟨1, sz9, by decide⟩ hd h
theorem f56_1 {b o : Nat} (hl : env.lookup t = some (.pointer (some ⟨b, o, none⟩))) (hd : d < N) (h : LW Try.prog N ((d, .pointer (some ⟨b, o + 1, none⟩)) :: env) ops rest Q w) : LW Try.prog N env ops (⟨some d, .fieldAddr 56 (.tmp t) 1, ty, pos, after, none⟩ :: rest) Q w :=
  lw_field hl Try.underlying56 rfl rfl ⟨1, sz9, by decide⟩ hd h
theorem f56_2 {b o : Nat} (hl : env.lookup t = some (.pointer (some ⟨b, o, none⟩))) (hd : d < N) (h : LW Try.prog N ((d, .pointer (some ⟨b, o + 2, none⟩)) :: env) ops rest Q w) : LW Try.prog N env ops (⟨some d, .fieldAddr 56 (.tmp t) 2, ty, pos, after, none⟩ :: rest) Q w :=
  lw_field hl Try.underlying56 rfl rfl ⟨1, sz51, by decide⟩ hd h
theorem f56_3 {b o : Nat} (hl : env.lookup t = some (.pointer (some ⟨b, o, none⟩))) (hd : d < N) (h : LW Try.prog N ((d, .pointer (some ⟨b, o + 3, none⟩)) :: env) ops rest Q w) : LW Try.prog N env ops (⟨some d, .fieldAddr 56 (.tmp t) 3, ty, pos, after, none⟩ :: rest) Q w :=
  lw_field hl Try.underlying56 rfl rfl ⟨1, sz9, by decide⟩ hd h
theorem f72_0 {b o : Nat} (hl : env.lookup t = some (.pointer (some ⟨b, o, none⟩))) (hd : d < N) (h : LW Try.prog N ((d, .pointer (some ⟨b, o, none⟩)) :: env) ops rest Q w) : LW Try.prog N env ops (⟨some d, .fieldAddr 72 (.tmp t) 0, ty, pos, after, none⟩ :: rest) Q w :=
  lw_field hl Try.underlying72 rfl rfl ⟨1, sz9, by decide⟩ hd h
theorem f72_1 {b o : Nat} (hl : env.lookup t = some (.pointer (some ⟨b, o, none⟩))) (hd : d < N) (h : LW Try.prog N ((d, .pointer (some ⟨b, o + 1, none⟩)) :: env) ops rest Q w) : LW Try.prog N env ops (⟨some d, .fieldAddr 72 (.tmp t) 1, ty, pos, after, none⟩ :: rest) Q w :=
  lw_field hl Try.underlying72 rfl rfl ⟨1, sz9, by decide⟩ hd h
theorem f71_0 {b o : Nat} (hl : env.lookup t = some (.pointer (some ⟨b, o, none⟩))) (hd : d < N) (h : LW Try.prog N ((d, .pointer (some ⟨b, o, none⟩)) :: env) ops rest Q w) : LW Try.prog N env ops (⟨some d, .fieldAddr 71 (.tmp t) 0, ty, pos, after, none⟩ :: rest) Q w :=
  lw_field hl Try.underlying71 rfl rfl ⟨1, sz9, by decide⟩ hd h
theorem f71_1 {b o : Nat} (hl : env.lookup t = some (.pointer (some ⟨b, o, none⟩))) (hd : d < N) (h : LW Try.prog N ((d, .pointer (some ⟨b, o + 1, none⟩)) :: env) ops rest Q w) : LW Try.prog N env ops (⟨some d, .fieldAddr 71 (.tmp t) 1, ty, pos, after, none⟩ :: rest) Q w :=
  lw_field hl Try.underlying71 rfl rfl ⟨1, sz9, by decide⟩ hd h
/-! the slices -/
theorem i51 {b o n c k : Nat} (hl : env.lookup t = some (.slice (some ⟨b, o, none⟩) n c)) (hs : env.lookup s = some (.int .i64 (k : Int))) (hk : k < n) (hd : d < N) (h : LW Try.prog N ((d, .pointer (some ⟨b, o + k, none⟩)) :: env) ops rest Q w) : LW Try.prog N env ops (⟨some d, .indexAddr 51 (.tmp t) (.tmp s), ty, pos, after, none⟩ :: rest) Q w :=
  lw_index hl hs hk Try.underlying51 sz9 hd (by rw [Nat.mul_one]; exact h)
theorem i22 {b o n c k : Nat} (hl : env.lookup t = some (.slice (some ⟨b, o, none⟩) n c)) (hs : env.lookup s = some (.int .i64 (k : Int))) (hk : k < n) (hd : d < N) (h : LW Try.prog N ((d, .pointer (some ⟨b, o + k * 2, none⟩)) :: env) ops rest Q w) : LW Try.prog N env ops (⟨some d, .indexAddr 22 (.tmp t) (.tmp s), ty, pos, after, none⟩ :: rest) Q w :=
  lw_index hl hs hk Try.underlying22 sz71 hd h
theorem i23 {b o n c k : Nat} (hl : env.lookup t = some (.slice (some ⟨b, o, none⟩) n c)) (hs : env.lookup s = some (.int .i64 (k : Int))) (hk : k < n) (hd : d < N) (h : LW Try.prog N ((d, .pointer (some ⟨b, o + k * 4, none⟩)) :: env) ops rest Q w) : LW Try.prog N env ops (⟨some d, .indexAddr 23 (.tmp t) (.tmp s), ty, pos, after, none⟩ :: rest) Q w :=
  lw_index hl hs hk Try.underlying23 sz34 hd h
theorem i31 {b o n c k : Nat} (hl : env.lookup t = some (.slice (some ⟨b, o, none⟩) n c)) (hs : env.lookup s = some (.int .i64 (k : Int))) (hk : k < n) (hd : d < N) (h : LW Try.prog N ((d, .pointer (some ⟨b, o + k * 2, none⟩)) :: env) ops rest Q w) : LW Try.prog N env ops (⟨some d, .indexAddr 31 (.tmp t) (.tmp s), ty, pos, after, none⟩ :: rest) Q w :=
  lw_index hl hs hk Try.underlying31 sz72 hd h
theorem i32 {b o n c k : Nat} (hl : env.lookup t = some (.slice (some ⟨b, o, none⟩) n c)) (hs : env.lookup s = some (.int .i64 (k : Int))) (hk : k < n) (hd : d < N) (h : LW Try.prog N ((d, .pointer (some ⟨b, o + k * 2, none⟩)) :: env) ops rest Q w) : LW Try.prog N env ops (⟨some d, .indexAddr 32 (.tmp t) (.tmp s), ty, pos, after, none⟩ :: rest) Q w :=
  lw_index hl hs hk Try.underlying32 sz54 hd h
theorem i52 {b o n c k : Nat} (hl : env.lookup t = some (.slice (some ⟨b, o, none⟩) n c)) (hs : env.lookup s = some (.int .i64 (k : Int))) (hk : k < n) (hd : d < N) (h : LW Try.prog N ((d, .pointer (some ⟨b, o + k * 4, none⟩)) :: env) ops rest Q w) : LW Try.prog N env ops (⟨some d, .indexAddr 52 (.tmp t) (.tmp s), ty, pos, after, none⟩ :: rest) Q w :=
  lw_index hl hs hk Try.underlying52 sz56 hd h
end
end Go.Proofs.Qxb6604078a.Env
