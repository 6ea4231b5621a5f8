import Derived.WalkKit
import Derived.WalkSpells
import Derived.WalkLawsBesides
namespace Go.Proofs.Qxb6604078a.Env
open Go.RowKit

/-! ### A walk over a frame that is not written out: what is known of its slots is a list of pairs -/

def slot (a : Act) (t : Nat) : Value := a.tmps.getD t undef

structure Sees (N : Nat) (env : List (Nat × Value)) (a : Act) : Prop where
  size : a.tmps.size = N
  defers : a.defers = []
  look : ∀ t v, env.lookup t = some v → slot a t = v

/-- Each pair of the second list is known of the first. -/
def Sub (env env' : List (Nat × Value)) : Prop := ∀ t v, env'.lookup t = some v → env.lookup t = some v

theorem sub_nil (env : List (Nat × Value)) : Sub env [] := fun _ _ h => by simp at h

theorem sub_cons {env env' : List (Nat × Value)} {t : Nat} {v : Value} (h : env.lookup t = some v) (hs : Sub env env') : Sub env ((t, v) :: env') := by
  intro t' v' h'
  by_cases e : t' = t
  · subst e
    simp only [List.lookup_cons_self, Option.some.injEq] at h'
    rw [← h']; exact h
  · have : (t' == t) = false := by simpa using e
    simp only [List.lookup_cons, this] at h'
    exact hs t' v' h'

theorem Sees.sub {N : Nat} {env env' : List (Nat × Value)} {a : Act} (h : Sees N env a) (hs : Sub env env') : Sees N env' a := ⟨h.size, h.defers, fun t v hv => h.look t v (hs t v hv)⟩

theorem Sees.put {N : Nat} {env : List (Nat × Value)} {a : Act} (h : Sees N env a) {d : Nat} (hd : d < N) (v : Value) : Sees N ((d, v) :: env) (a.put (some d) v) := by
  refine ⟨by simp [Act.put, h.size], h.defers, fun t u hu => ?_⟩
  by_cases e : t = d
  · subst e
    simp only [List.lookup_cons_self, Option.some.injEq] at hu
    subst hu
    have hd' : t < a.tmps.size := by rw [h.size]; exact hd
    simp [slot, Act.put, Array.getD, hd']
  · have h2 : (t == d) = false := by simpa using e
    simp only [List.lookup_cons, h2] at hu
    have := h.look t u hu
    rw [← this]
    unfold slot Act.put
    simp only [Array.getD_eq_getD_getElem?]
    rw [Array.getElem?_setIfInBounds_ne (fun x => e x.symm)]

section
variable {P : Program} {N : Nat} {env : List (Nat × Value)} {Q : Exit → Act → World → Prop} {w : World}

structure CW (P : Program) (N : Nat) (env : List (Nat × Value)) (c : Code) (Q : Exit → Act → World → Prop) (w : World) : Prop where
  run : ∀ a, Sees N env a → c.wp P Q a w
structure LW (P : Program) (N : Nat) (env : List (Nat × Value)) (ops : Array Oper) (l : List Oper) (Q : Exit → Act → World → Prop) (w : World) : Prop where
  run : ∀ a, Sees N env a → wpList P ops Q l a w
structure PW (N : Nat) (env : List (Nat × Value)) (Q : Exit → Act → World → Prop) (w : World) (e : Exit) : Prop where
  run : ∀ a, Sees N env a → Q e a w

theorem cw_sub {c : Code} {env' : List (Nat × Value)} (hs : Sub env env') (h : CW P N env' c Q w) : CW P N env c Q w := ⟨fun a ha => h.run a (ha.sub hs)⟩
theorem pw_sub {e : Exit} {env' : List (Nat × Value)} (hs : Sub env env') (h : PW N env' Q w e) : PW N env Q w e := ⟨fun a ha => h.run a (ha.sub hs)⟩
theorem cw_seq {x y : Code} (h : CW P N env x (Exit.then (y.wp P Q) Q) w) : CW P N env (.seq x y) Q w := ⟨fun a ha => wp_seq (h.run a ha)⟩
theorem cw_region {id : Nat} {l : List Oper} (h : LW P N env l.toArray l Q w) : CW P N env (.region id l.toArray false) Q w := ⟨fun a ha => wp_region_lit (h.run a ha)⟩
theorem cw_block {id : Nat} {c : Code} (h : CW P N env c (Exit.inBlock id Q) w) : CW P N env (.block id c) Q w := ⟨fun a ha => wp_block (h.run a ha)⟩
theorem cw_skip (h : PW N env Q w .normal) : CW P N env .skip Q w := ⟨fun a ha => wp_skip (h.run a ha)⟩
theorem cw_ret (h : PW N env Q w .ret) : CW P N env .ret Q w := ⟨fun a ha => wp_ret (h.run a ha)⟩
theorem cw_exit {id : Nat} (h : PW N env Q w (.exit id)) : CW P N env (.exit id) Q w := ⟨fun a ha => wp_exit (h.run a ha)⟩
theorem cw_cond {t : Nat} {x y : Code} {b : Bool} (hl : env.lookup t = some (.bool b)) (h1 : b = true → CW P N env x Q w) (h2 : b = false → CW P N env y Q w) : CW P N env (.cond (.tmp t) x y) Q w := ⟨fun a ha =>
  wp_cond_split (t := b) (ha.look t _ hl) (fun e => (h1 e).run a ha) (fun e => (h2 e).run a ha)⟩

theorem lw_nil {ops : Array Oper} (h : PW N env Q w .normal) : LW P N env ops [] Q w := ⟨fun a ha => wpList_nil (h.run a ha)⟩
theorem pw_then {y : Code} (h : CW P N env y Q w) : PW N env (Exit.then (y.wp P Q) Q) w .normal := ⟨fun a ha => h.run a ha⟩
theorem pw_then_ret {K : Act → World → Prop} (h : PW N env Q w .ret) : PW N env (Exit.then K Q) w .ret := ⟨fun a ha => h.run a ha⟩
theorem pw_then_exit {K : Act → World → Prop} {i : Nat} (h : PW N env Q w (.exit i)) : PW N env (Exit.then K Q) w (.exit i) := ⟨fun a ha => h.run a ha⟩
theorem pw_block_normal {id : Nat} (h : PW N env Q w .normal) : PW N env (Exit.inBlock id Q) w .normal := ⟨fun a ha => h.run a ha⟩
theorem pw_block_ret {id : Nat} (h : PW N env Q w .ret) : PW N env (Exit.inBlock id Q) w .ret := ⟨fun a ha => h.run a ha⟩
theorem pw_block_exit {id : Nat} (h : PW N env Q w .normal) : PW N env (Exit.inBlock id Q) w (.exit id) := ⟨fun a ha => by
  show (if id = id then _ else _)
  rw [if_pos rfl]; exact h.run a ha⟩
theorem pw_block_other {id i : Nat} (hi : i ≠ id) (h : PW N env Q w (.exit i)) : PW N env (Exit.inBlock id Q) w (.exit i) := ⟨fun a ha => by
  show (if i = id then _ else _)
  rw [if_neg hi]; exact h.run a ha⟩

/-- THE CALL's BEGINNING. -/
theorem calls_env {f : FuncId} {fn : Func} {c : Code} {args : Array Value} {R : Ending → World → Prop} (hf : P.funcs[f]? = some fn) (hb : fn.body = some c) (hn : fn.ntmps = N) (hle : args.size ≤ N)
    (hargs : ∀ t v, env.lookup t = some v → args[t]? = some v) (h : CW P N env c (bodyPost P fn R) w) : Calls P f args w R := by
  refine calls_of_wp hf hb (h.run _ ⟨?_, rfl, fun t v hv => ?_⟩)
  · simp only [Array.size_append, Array.size_replicate, hn]; omega
  · have h1 := hargs t v hv
    have hlt : t < args.size := (Array.getElem?_eq_some_iff.1 h1).1
    unfold slot
    rw [Array.getD_eq_getD_getElem?, Array.getElem?_append_left hlt, h1]
    rfl

/-- ITS END: one result, in a slot. -/
theorem pw_result {fn : Func} {R : Ending → World → Prop} {t : Nat} {v : Value} (hr : fn.results = #[.tmp t]) (hl : env.lookup t = some v) (h : R (.returned v) w) : PW N env (bodyPost P fn R) w .ret := ⟨fun a ha => by
  refine bodyPost_ret (results_tmp hr _ _ _) ha.defers ?_
  have := ha.look t v hl
  unfold slot at this
  rw [this]; exact h⟩

/-- A LOOP: two slots that the round turns (a number; the counter), the others stand. -/
theorem cw_loop {c : Code} {z i : Nat} {fix : List (Nat × Value)} {n : Nat} {q0 : Int} (Rel : Int → Nat → Prop) (hzi : i ≠ z) (hz : env.lookup z = some (.int .i64 q0)) (hi : env.lookup i = some (.int .i64 0)) (hs : Sub env fix) (h0 : Rel q0 0)
    (round : ∀ q k, k ≤ n → Rel q k → ∀ K : Exit → Act → World → Prop, (∀ e, e ≠ .normal → ∀ a w, Q e a w → K e a w) →
      (∀ env' q', Rel q' (k + 1) → k + 1 ≤ n → env'.lookup z = some (.int .i64 q') → env'.lookup i = some (.int .i64 ((k + 1 : Nat) : Int)) → Sub env' fix → PW N env' K w .normal) →
      CW P N ((z, .int .i64 q) :: (i, .int .i64 (k : Int)) :: fix) c K w) : CW P N env (.loop c) Q w := by
  refine ⟨fun a ha => ?_⟩
  refine wp_loop (fun a' w' => w' = w ∧ ∃ q k, k ≤ n ∧ Rel q k ∧ Sees N ((z, .int .i64 q) :: (i, .int .i64 (k : Int)) :: fix) a') (fun a' _ => n - (intOf (slot a' i)).toNat) ⟨rfl, q0, 0, Nat.zero_le _, h0, ha.sub (sub_cons hz (sub_cons hi hs))⟩ ?_
  rintro a' w' ⟨rfl, q, k, hk, hr, hsees⟩
  have hik : slot a' i = .int .i64 (k : Int) := hsees.look i _ (by
    have : (i == z) = false := by simpa using hzi
    simp [List.lookup_cons, this])
  refine (round q k hk hr _ ?_ ?_).run a' hsees
  · intro e he a w hq
    cases e with
    | normal => exact absurd rfl he
    | exit id => exact hq
    | goto l => exact hq
    | ret => exact hq
    | panic ch => exact hq
    | outgrown => exact hq
  · intro env' q' hr' hk' hz' hi' hs'
    refine ⟨fun a'' ha'' => ?_⟩
    refine ⟨⟨rfl, q', k + 1, hk', hr', ha''.sub (sub_cons hz' (sub_cons hi' hs'))⟩, ?_⟩
    have : slot a'' i = .int .i64 ((k + 1 : Nat) : Int) := ha''.look i _ hi'
    rw [this, hik]
    simp only [intOf, Int.toNat_natCast]
    omega

end
end Go.Proofs.Qxb6604078a.Env
