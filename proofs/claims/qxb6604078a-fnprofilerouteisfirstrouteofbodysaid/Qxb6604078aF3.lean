import Derived.Test.Qxb6604078aF2
namespace Go.Proofs.Qxb6604078a
open Go.RowKit

/-- The routes of a profile of the call's own: their bodies. -/
structure PRts (B : Nat) (w : World) (a : Option Addr) (n : Nat) (R : Nat → RouteV) : Prop where
  max : n ≤ 140737488351232
  nil : a = none → n = 0
  here : 0 < n → ∃ b o, a = some ⟨b, o, none⟩ ∧ (B ≤ b ∧ b < w.heap.size) ∧ ∀ i, i < n → w.cell? ⟨b, o + i * 4, none⟩ = some (.string (R i).bo)

theorem PRts.same {B : Nat} {w w' : World} {a : Option Addr} {n : Nat} {R : Nat → RouteV} (h : PRts B w a n R) (hb : Same B w w') : PRts B w' a n R := by
  refine ⟨h.max, h.nil, fun hn => ?_⟩
  obtain ⟨b, o, e, hl, hc⟩ := h.here hn
  exact ⟨b, o, e, ⟨hl.1, Nat.lt_of_lt_of_le hl.2 hb.size⟩, fun i hi => (hb.cell (p := ⟨b, o + i * 4, none⟩) hl.1 hl.2).trans (hc i hi)⟩

def RetRts (w : World) (n : Nat) (R : Nat → RouteV) (e : Ending) (w' : World) : Prop :=
  ∃ a c, e = .returned (.slice a n c) ∧ PRts w.heap.size w' a n R ∧ Below w.heap.size w w'

structure Inv14 (w wr : World) (n : Nat) (R : Nat → RouteV) (k : Nat) (f : Nat → Value) : Prop where
  b0 : wr.rowIs w.heap.size 38 (n * 4) f
  dn : ∀ j, j < k → f (j * 4) = .string (R j).bo
  be : Below w.heap.size w wr

theorem Inv14.step {w wr w1 : World} {n : Nat} {R : Nat → RouteV} {k : Nat} {f : Nat → Value} {v1 v2 v3 : Value} (h : Inv14 w wr n R k f) (hb : Below wr.heap.size wr w1) :
    Inv14 w ((((w1.setCell ⟨w.heap.size, k * 4, none⟩ (.string (R k).bo)).setCell ⟨w.heap.size, k * 4 + 1, none⟩ v1).setCell ⟨w.heap.size, k * 4 + 2, none⟩ v2).setCell ⟨w.heap.size, k * 4 + 3, none⟩ v3) n R (k + 1)
      (fun j => if j = k * 4 + 3 then v3 else if j = k * 4 + 2 then v2 else if j = k * 4 + 1 then v1 else if j = k * 4 then .string (R k).bo else f j) := by
  refine ⟨((((rowIs_below h.b0 hb).set (k * 4) _).set (k * 4 + 1) _).set (k * 4 + 2) _).set (k * 4 + 3) _, fun j hj => ?_, ((((h.be.trans (hb.mono h.be.size)).setCell (by simp) _).setCell (by simp) _).setCell (by simp) _).setCell (by simp) _⟩
  rw [if_neg (by omega), if_neg (by omega), if_neg (by omega)]
  by_cases e : j = k
  · subst e
    rw [if_pos rfl]
  · rw [if_neg (by omega)]
    exact h.dn j (by omega)

theorem Inv14.done {w wr : World} {n : Nat} {R : Nat → RouteV} {f : Nat → Value} (h : Inv14 w wr n R n f) (hn : n ≤ 140737488351232) : RetRts w n R (.returned (.slice (some ⟨w.heap.size, 0, none⟩) n n)) wr :=
  ⟨_, _, rfl, ⟨hn, fun e => (by cases e), fun _ => ⟨_, _, rfl, ⟨Nat.le_refl _, h.b0.lt⟩, fun i hi => by rw [Nat.zero_add, h.b0.cell (by omega), h.dn i hi]⟩⟩, h.be⟩

theorem info38 : (Try.prog.info? 38).map (fun i => (i.zero, i.size, i.bytes)) = some (some (.agg #[.string ⟨#[]⟩, .string ⟨#[]⟩, .slice none 0 0, .slice none 0 0]), 4, 80) := by kernel_rfl

set_option maxHeartbeats 2000000 in
theorem routes_any (a : Option Addr) (n c : Nat) (R : Nat → RouteV) (w : World) (h : Rts w a n c R) :
    Calls Try.prog 14 #[.slice a n c] w fun e w' => RetRts w n R e w' := by
  have c1 := h.le
  have c2 := h.cap
  have ha := h.here
  have hn := h.nil
  clear h
  have heq := fun w a n c => Lib.run_eql_slice_nil (P := Try.prog) w 23 34 a n c 0 0 Try.underlying23
  cases a with
  | none =>
    obtain ⟨rfl, rfl⟩ := hn rfl
    clear hn ha
    go_enter Try.func14, Try.ntmps14
    go_wp2
    go_ret
    exact ⟨_, _, rfl, ⟨by omega, fun _ => rfl, fun h => absurd h (Nat.lt_irrefl _)⟩, Below.refl _ _⟩
  | some x =>
    clear hn
    have hmk := make_eq (P := Try.prog) 40 38 (.agg #[.string ⟨#[]⟩, .string ⟨#[]⟩, .slice none 0 0, .slice none 0 0]) 4 80 Try.underlying40 info38 n (by omega) (by omega)
    go_enter Try.func14, Try.ntmps14
    go_wp2
    go_loopw [4] (fun i wr => ∃ (k : Nat) (f : Nat → Value), k ≤ n ∧ i = .int .i64 k ∧ Inv14 w wr n R k f) (fun i _ => n - (intOf i).toNat)
    case atStart => exact ⟨0, _, Nat.zero_le _, rfl, made_row w _ (n * 4) 38, fun j hj => absurd hj (Nat.not_lt_zero _), (Below.refl _ _).alloc (Nat.le_refl _) _⟩
    case round =>
      obtain ⟨k, f, hk, rfl, hI⟩ := hrel
      have hz := hI.b0.lt
      by_cases hlt : k < n
      · obtain ⟨b, o, hao, hbl, hat⟩ := ha (by omega)
        have hck := (hat k hlt).later hbl hI.be
        simp only [Option.some.injEq] at hao
        subst hao
        obtain ⟨x0, x1, x2, x3, -, -, s2, s3⟩ := hck
        have z0 := hI.b0.cell (i := k * 4) (by omega)
        have z1 := hI.b0.cell (i := k * 4 + 1) (by omega)
        have z2 := hI.b0.cell (i := k * 4 + 2) (by omega)
        have z3 := hI.b0.cell (i := k * 4 + 3) (by omega)
        have z4 := hI.b0.frozen
        clear hat ha hmk
        go_wp2_with (first | (go_at_call 17; refine (route_any _ _ _ _ _ _ _ _ _ _ _ s2 s3).mono ?_; rintro e w1 ⟨sa, sc, ta, tc, rfl, hP, hb1⟩; have y0 := (hb1.cell (p := ⟨w.heap.size, k * 4, none⟩) hz).trans z0; have y1 := (hb1.cell (p := ⟨w.heap.size, k * 4 + 1, none⟩) hz).trans z1; have y2 := (hb1.cell (p := ⟨w.heap.size, k * 4 + 2, none⟩) hz).trans z2; have y3 := (hb1.cell (p := ⟨w.heap.size, k * 4 + 3, none⟩) hz).trans z3; have y4 := fun j => (hb1.frozen (p := ⟨w.heap.size, j, none⟩) hz).trans (z4 j)))
        go_roundw
        case rel => exact ⟨k + 1, _, by omega, by go_num, hI.step hb1⟩
        case measure => simp [intOf]; omega
      · obtain rfl : k = n := by omega
        clear hmk ha
        go_wp2
        go_ret
        exact hI.done (by omega)

/-! ### (*Profile).Route -/

def RetRoute1 (a : Option Addr) (n : Nat) (R : Nat → RouteV) (v : ByteArray) (e : Ending) : Prop :=
  ((∀ i, i < n → ¬ (R i).bo = v) ∧ e = .returned (.pointer none)) ∨
  ∃ b o i, a = some ⟨b, o, none⟩ ∧ i < n ∧ (R i).bo = v ∧ (∀ j, j < i → ¬ (R j).bo = v) ∧ e = .returned (.pointer (some ⟨b, o + i * 4, none⟩))
end Go.Proofs.Qxb6604078a
