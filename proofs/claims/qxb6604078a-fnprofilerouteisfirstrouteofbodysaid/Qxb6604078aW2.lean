import Derived.Test.Qxb6604078aW
import Derived.Test.Qxb6604078aA2
namespace Go.Proofs.Qxb6604078a.Env
open Go.RowKit Go.WideShapes

section
variable {N : Nat} {env : List (Nat × Value)} {Q : Exit → Act → World → Prop} {w : World} {ops : Array Oper} {rest : List Oper}

theorem pw_pass {Q K : Exit → Act → World → Prop} {e : Exit} (hp : ∀ e, e ≠ .normal → ∀ a w, Q e a w → K e a w) (he : e ≠ .normal) (h : PW N env Q w e) : PW N env K w e := ⟨fun a ha => hp e he a w (h.run a ha)⟩

theorem pw_pass_ret {Q K : Exit → Act → World → Prop} (hp : ∀ e, e ≠ .normal → ∀ a w, Q e a w → K e a w) (h : PW N env Q w .ret) : PW N env K w .ret := pw_pass hp (by simp) h
theorem pw_pass_exit {Q K : Exit → Act → World → Prop} {i : Nat} (hp : ∀ e, e ≠ .normal → ∀ a w, Q e a w → K e a w) (h : PW N env Q w (.exit i)) : PW N env K w (.exit i) := pw_pass hp (by simp) h

theorem lw_op {P : Program} {o : Oper} {d : Nat} {v : Value} (hg : o.guard = none) (hd : o.dst = some d) (hdN : d < N) (hrun : ∀ a, Sees N env a → (execOp a.eval o).run P w = .ok (.value v) w) (h : LW P N ((d, v) :: env) ops rest Q w) : LW P N env ops (o :: rest) Q w := ⟨fun a ha => by
  refine wpList_plain hg fun K hK => ?_
  unfold Oper.wp
  rw [hrun a ha, Oper.upon_value, hd]
  exact hK _ _ (h.run _ (ha.put hdN v))⟩

theorem eval_tmp {t : Nat} {v : Value} (hl : env.lookup t = some v) {a : Act} (ha : Sees N env a) : a.eval (.tmp t) = v := ha.look t v hl

variable {P : Program} {ty : TypeId} {pos : String} {after : Array Edge} {d t s : Nat}

theorem lw_move {v : Value} (hl : env.lookup t = some v) (hd : d < N) (h : LW P N ((d, v) :: env) ops rest Q w) : LW P N env ops (⟨some d, .move (.tmp t), ty, pos, after, none⟩ :: rest) Q w :=
  lw_op rfl rfl hd (fun a ha => by
    have h1 := eval_tmp hl ha
    generalize a.eval = r at h1 ⊢
    simp [execOp, h1]) h
theorem lw_assign {v : Value} (hl : env.lookup t = some v) (hd : d < N) (h : LW P N ((d, v) :: env) ops rest Q w) : LW P N env ops (⟨some d, .assign (.tmp t), ty, pos, after, none⟩ :: rest) Q w :=
  lw_op rfl rfl hd (fun a ha => by
    have h1 := eval_tmp hl ha
    generalize a.eval = r at h1 ⊢
    simp [execOp, h1]) h
theorem lw_const {v : Value} (hd : d < N) (h : LW P N ((d, v) :: env) ops rest Q w) : LW P N env ops (⟨some d, .assign (.const v), ty, pos, after, none⟩ :: rest) Q w :=
  lw_op rfl rfl hd (fun a ha => by
    have h1 : a.eval (.const v) = v := rfl
    generalize a.eval = r at h1 ⊢
    simp [execOp, h1]) h
theorem lw_gtr {x m : Int} {t3 : TypeId} (hl : env.lookup t = some (.int .i64 x)) (hd : d < N) (h : LW P N ((d, .bool (decide (m < x))) :: env) ops rest Q w) : LW P N env ops (⟨some d, .binOp .gtr t3 (.tmp t) (.const (.int .i64 m)) t3, ty, pos, after, none⟩ :: rest) Q w :=
  lw_op rfl rfl hd (fun a ha => by
    have h1 := eval_tmp hl ha
    have h2 : a.eval (.const (.int .i64 m)) = .int .i64 m := rfl
    generalize a.eval = r at h1 h2 ⊢
    simp [execOp, h1, h2, go_sem]) h
theorem lw_lss {x y : Int} {t3 : TypeId} (hl : env.lookup t = some (.int .i64 x)) (hs : env.lookup s = some (.int .i64 y)) (hd : d < N) (h : LW P N ((d, .bool (decide (x < y))) :: env) ops rest Q w) : LW P N env ops (⟨some d, .binOp .lss t3 (.tmp t) (.tmp s) t3, ty, pos, after, none⟩ :: rest) Q w :=
  lw_op rfl rfl hd (fun a ha => by
    have h1 := eval_tmp hl ha
    have h2 := eval_tmp hs ha
    generalize a.eval = r at h1 h2 ⊢
    simp [execOp, h1, h2, go_sem]) h
theorem lw_add {x y : Int} {t3 : TypeId} (hl : env.lookup t = some (.int .i64 x)) (hs : env.lookup s = some (.int .i64 y)) (hd : d < N) (h : LW P N ((d, .int .i64 (IntKind.i64.wrap (x + y))) :: env) ops rest Q w) : LW P N env ops (⟨some d, .binOp .add t3 (.tmp t) (.tmp s) t3, ty, pos, after, none⟩ :: rest) Q w :=
  lw_op rfl rfl hd (fun a ha => by
    have h1 := eval_tmp hl ha
    have h2 := eval_tmp hs ha
    generalize a.eval = r at h1 h2 ⊢
    simp [execOp, h1, h2, binOp_add, Op.intArith, eqGuard]) h
theorem lw_inc {k : Nat} {t3 : TypeId} (hl : env.lookup t = some (.int .i64 (k : Int))) (hk : k ≤ 140737488351232) (hd : d < N) (h : LW P N ((d, .int .i64 ((k + 1 : Nat) : Int)) :: env) ops rest Q w) : LW P N env ops (⟨some d, .binOp .add t3 (.tmp t) (.const (.int .i64 1)) t3, ty, pos, after, none⟩ :: rest) Q w :=
  lw_op rfl rfl hd (fun a ha => by
    have e : IntKind.i64.wrap ((k : Int) + 1) = ((k + 1 : Nat) : Int) := by rw [IntKind.wrap_i64]; omega
    have h1 := eval_tmp hl ha
    have h2 : a.eval (.const (.int .i64 1)) = .int .i64 1 := rfl
    generalize a.eval = r at h1 h2 ⊢
    simp only [execOp, h1, h2, binOp_add, Op.intArith]
    simp [eqGuard, e]) h
theorem lw_lenSlice {a0 : Option Addr} {n c : Nat} {T e : TypeId} (hl : env.lookup t = some (.slice a0 n c)) (hu : P.underlying T = some (.slice e)) (hd : d < N) (h : LW P N ((d, .int .i64 (n : Int)) :: env) ops rest Q w) :
    LW P N env ops (⟨some d, .call { callee := .builtin .len, args := #[.tmp t], argTypes := #[T] }, ty, pos, after, none⟩ :: rest) Q w :=
  lw_op rfl rfl hd (fun a ha => by
    have h1 := eval_tmp hl ha
    generalize a.eval = r at h1 ⊢
    simp [h1, go_sem, Builtin.len_, run_underlying hu]) h
theorem lw_lenString {x : ByteArray} {T : TypeId} (hl : env.lookup t = some (.string x)) (hu : P.underlying T = some .string) (hd : d < N) (h : LW P N ((d, .int .i64 (x.size : Int)) :: env) ops rest Q w) :
    LW P N env ops (⟨some d, .call { callee := .builtin .len, args := #[.tmp t], argTypes := #[T] }, ty, pos, after, none⟩ :: rest) Q w :=
  lw_op rfl rfl hd (fun a ha => by
    have h1 := eval_tmp hl ha
    generalize a.eval = r at h1 ⊢
    simp [h1, go_sem, Builtin.len_, run_underlying hu]) h
theorem lw_index {b o n c k sz : Nat} {T e : TypeId} (hl : env.lookup t = some (.slice (some ⟨b, o, none⟩) n c)) (hs : env.lookup s = some (.int .i64 (k : Int))) (hk : k < n) (hu : P.underlying T = some (.slice e)) (hz : ∀ w, (sizeOf e).run P w = .ok sz w) (hd : d < N)
    (h : LW P N ((d, .pointer (some ⟨b, o + k * sz, none⟩)) :: env) ops rest Q w) : LW P N env ops (⟨some d, .indexAddr T (.tmp t) (.tmp s), ty, pos, after, none⟩ :: rest) Q w :=
  lw_op rfl rfl hd (fun a ha => by
    have h1 := eval_tmp hl ha
    have h2 := eval_tmp hs ha
    generalize a.eval = r at h1 h2 ⊢
    simp [execOp, h1, h2, Instr.indexAt, run_underlying hu, asIntOf, hk, hz, add_plain]) h
theorem lw_field {b o f off : Nat} {T : TypeId} {fs : Array Field} {fd : Field} (hl : env.lookup t = some (.pointer (some ⟨b, o, none⟩))) (hu : P.underlying T = some (.struct fs)) (hf : fs[f]? = some fd) (ho : fd.offset = off) (hz : ∃ n, (∀ w, (sizeOf fd.type).run P w = .ok n w) ∧ n ≠ 0) (hd : d < N)
    (h : LW P N ((d, .pointer (some ⟨b, o + off, none⟩)) :: env) ops rest Q w) : LW P N env ops (⟨some d, .fieldAddr T (.tmp t) f, ty, pos, after, none⟩ :: rest) Q w :=
  lw_op rfl rfl hd (fun a ha => by
    obtain ⟨n, z1, z2⟩ := hz
    have h1 := eval_tmp hl ha
    generalize a.eval = r at h1 ⊢
    simp [execOp, h1, Instr.fieldAt, run_underlying hu, hf, Instr.sureAddr, fieldPlace, z1, z2, ho, add_plain]) h
theorem lw_load {b o : Nat} {T : TypeId} {v : Value} (hl : env.lookup t = some (.pointer (some ⟨b, o, none⟩))) (hg : ∀ w, (isAgg T).run P w = .ok false w) (hc : w.cell? ⟨b, o, none⟩ = some v) (hd : d < N)
    (h : LW P N ((d, v) :: env) ops rest Q w) : LW P N env ops (⟨some d, .load T (.tmp t), ty, pos, after, none⟩ :: rest) Q w :=
  lw_op rfl rfl hd (fun a ha => by
    have h1 := eval_tmp hl ha
    generalize a.eval = r at h1 ⊢
    simp [execOp, h1, Instr.loadAt, Instr.sureAddr, loadVar, hg, go_sem, hc]) h
end
end Go.Proofs.Qxb6604078a.Env
