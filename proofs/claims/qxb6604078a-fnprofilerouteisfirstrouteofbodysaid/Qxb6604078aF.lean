import Derived.Test.Qxb6604078aE
namespace Go.Proofs.Qxb6604078a
open Go.RowKit

/-- The conditions of a threshold of the profile's own: pointers. -/
def PConds (B : Nat) (w : World) (a : Option Addr) (n : Nat) (C : Nat → CondV) : Prop :=
  0 < n → ∃ b o, a = some ⟨b, o, none⟩ ∧ (B ≤ b ∧ b < w.heap.size) ∧ ∀ i, i < n → ∃ p, w.cell? ⟨b, o + i, none⟩ = some (.pointer (some ⟨p, 0, none⟩)) ∧ PCond B w p (C i).on (C i).O

theorem PConds.same {B : Nat} {w w' : World} {a : Option Addr} {n : Nat} {C : Nat → CondV} (h : PConds B w a n C) (hb : Same B w w') : PConds B w' a n C := by
  intro hn
  obtain ⟨b, o, e, hl, hc⟩ := h hn
  refine ⟨b, o, e, ⟨hl.1, Nat.lt_of_lt_of_le hl.2 hb.size⟩, fun i hi => ?_⟩
  obtain ⟨p, h1, h2⟩ := hc i hi
  exact ⟨p, (hb.cell (p := ⟨b, o + i, none⟩) hl.1 hl.2).trans h1, h2.same hb⟩

theorem PConds.mono {B B' : Nat} {w : World} {a : Option Addr} {n : Nat} {C : Nat → CondV} (h : PConds B w a n C) (hB : B' ≤ B) : PConds B' w a n C := by
  intro hn
  obtain ⟨b, o, e, hl, hc⟩ := h hn
  refine ⟨b, o, e, ⟨Nat.le_trans hB hl.1, hl.2⟩, fun i hi => ?_⟩
  obtain ⟨p, h1, h2⟩ := hc i hi
  exact ⟨p, h1, h2.mono hB⟩

def RetThr (w : World) (kn : Nat) (K : Nat → ByteArray) (cn : Nat) (C : Nat → CondV) (e : Ending) (w' : World) : Prop :=
  ∃ ka kc aa ac, e = .returned (.agg #[.slice ka kn kc, .slice aa cn ac]) ∧ Strs w.heap.size w' ka kn kc K ∧ PConds w.heap.size w' aa cn C ∧ Below w.heap.size w w'

/-- What holds at each round's head of zzThreshold's loop. -/
structure Inv38 (w wr : World) (ka : Option Addr) (kn kc : Nat) (ca : Option Addr) (cn cc : Nat) (C : Nat → CondV) (k : Nat) (f : Nat → Value) : Prop where
  b0 : wr.rowIs w.heap.size 54 2 (fun i => if i = 0 then .slice ka kn kc else .slice ca cn cc)
  b1 : wr.rowIs (w.heap.size + 1) 64 2 (fun _ => .slice none 0 0)
  b2 : wr.rowIs (w.heap.size + 2) 98 cn f
  dn : ∀ j, j < k → ∃ p, f j = .pointer (some ⟨p, 0, none⟩) ∧ PCond (w.heap.size + 3) wr p (C j).on (C j).O
  be : Below w.heap.size w wr

theorem rowIs_below {w w' : World} {b t n : Nat} {f : Nat → Value} (h : w.rowIs b t n f) (hb : Below w.heap.size w w') : w'.rowIs b t n f := h.of_block (hb.block _ h.lt)

theorem Inv38.step {w wr w1 : World} {ka : Option Addr} {kn kc : Nat} {ca : Option Addr} {cn cc : Nat} {C : Nat → CondV} {k : Nat} {f : Nat → Value} {p : Nat}
    (h : Inv38 w wr ka kn kc ca cn cc C k f) (hb : Below wr.heap.size wr w1) (hp : PCond wr.heap.size w1 p (C k).on (C k).O) :
    Inv38 w (w1.setCell ⟨w.heap.size + 2, k, none⟩ (.pointer (some ⟨p, 0, none⟩))) ka kn kc ca cn cc C (k + 1) (fun j => if j = k then .pointer (some ⟨p, 0, none⟩) else f j) := by
  have hz := h.b2.lt
  have s1 : Same (w.heap.size + 3) wr w1 := .of_below hb
  have s2 : Same (w.heap.size + 3) w1 (w1.setCell ⟨w.heap.size + 2, k, none⟩ (.pointer (some ⟨p, 0, none⟩))) := .setCell w1 (by simp) _
  refine ⟨(rowIs_below h.b0 hb).setOther (by simp) _, (rowIs_below h.b1 hb).setOther (by simp) _, (rowIs_below h.b2 hb).set k _, fun j hj => ?_, (h.be.trans (hb.mono h.be.size)).setCell (by simp) _⟩
  by_cases e : j = k
  · subst e
    exact ⟨p, by simp, (hp.mono (by omega)).same s2⟩
  · obtain ⟨p', e1, e2⟩ := h.dn j (by omega)
    exact ⟨p', by simp [e, e1], e2.same (s1.trans s2)⟩

theorem Inv38.done {w wr w1 : World} {ka : Option Addr} {kn kc : Nat} {ca : Option Addr} {cn cc : Nat} {C : Nat → CondV} {f : Nat → Value} {K : Nat → ByteArray} {ka' : Option Addr} {kc' : Nat}
    (h : Inv38 w wr ka kn kc ca cn cc C cn f) (hb : Below wr.heap.size wr w1) (hk : Strs wr.heap.size w1 ka' kn kc' K) :
    RetThr w kn K cn C (.returned (.agg #[.slice ka' kn kc', .slice (some ⟨w.heap.size + 2, 0, none⟩) cn cn]))
      ((w1.setCell ⟨w.heap.size + 1, 0, none⟩ (.slice ka' kn kc')).setCell ⟨w.heap.size + 1, 1, none⟩ (.slice (some ⟨w.heap.size + 2, 0, none⟩) cn cn)) := by
  have hz := h.b2.lt
  have s1 : Same (w.heap.size + 2) wr w1 := .of_below hb
  have s2 : Same (w.heap.size + 2) w1 ((w1.setCell ⟨w.heap.size + 1, 0, none⟩ (.slice ka' kn kc')).setCell ⟨w.heap.size + 1, 1, none⟩ (.slice (some ⟨w.heap.size + 2, 0, none⟩) cn cn)) :=
    (Same.setCell w1 (by simp) _).trans (.setCell _ (by simp) _)
  refine ⟨_, _, _, _, rfl, ((hk.mono (by omega)).same s2).mono (by omega), ?_, ((h.be.trans (hb.mono h.be.size)).setCell (by simp) _).setCell (by simp) _⟩
  refine PConds.mono (B := w.heap.size + 2) (PConds.same (w := wr) ?_ (s1.trans s2)) (by omega)
  intro _
  refine ⟨_, _, rfl, ⟨Nat.le_refl _, hz⟩, fun i hi => ?_⟩
  obtain ⟨p, e1, e2⟩ := h.dn i hi
  exact ⟨p, by rw [Nat.zero_add, h.b2.cell hi, e1], e2.mono (by omega)⟩

theorem info98 : (Try.prog.info? 98).map (fun i => (i.zero, i.size, i.bytes)) = some (some (.pointer none), 1, 8) := by kernel_rfl

theorem retThr_nil {w w0 w1 : World} {kn : Nat} {K : Nat → ByteArray} {C : Nat → CondV} {ka' : Option Addr} {kc' : Nat} (h0 : Below w.heap.size w w0) (hz : w.heap.size + 2 ≤ w0.heap.size) (hb : Below w0.heap.size w0 w1) (hk : Strs w0.heap.size w1 ka' kn kc' K) :
    RetThr w kn K 0 C (.returned (.agg #[.slice ka' kn kc', .slice none 0 0])) ((w1.setCell ⟨w.heap.size + 1, 0, none⟩ (.slice ka' kn kc')).setCell ⟨w.heap.size + 1, 1, none⟩ (.slice none 0 0)) := by
  have s2 : Same (w.heap.size + 2) w1 ((w1.setCell ⟨w.heap.size + 1, 0, none⟩ (.slice ka' kn kc')).setCell ⟨w.heap.size + 1, 1, none⟩ (.slice none 0 0)) :=
    (Same.setCell w1 (by simp) _).trans (.setCell _ (by simp) _)
  exact ⟨_, _, _, _, rfl, ((hk.mono hz).same s2).mono (by omega), fun h => absurd h (Nat.lt_irrefl _), ((h0.trans (hb.mono h0.size)).setCell (by simp) _).setCell (by simp) _⟩

set_option maxHeartbeats 1000000 in
theorem threshold_nil (ka : Option Addr) (kn kc : Nat) (K : Nat → ByteArray) (C : Nat → CondV) (w : World) (hK : Strs 0 w ka kn kc K) :
    Calls Try.prog 38 #[.agg #[.slice ka kn kc, .slice none 0 0]] w fun e w' => RetThr w kn K 0 C e w' := by
  have heq := fun w a n c => run_neq_slice_nil_any (P := Try.prog) w 52 56 a n c 0 0 Try.underlying52
  go_enter Try.func38, Try.ntmps38
  go_wp2_with fail
  refine (kinds_any _ _ _ K _ (hK.later (((Below.refl _ _).alloc (Nat.le_refl _) _).alloc (by simp) _))).mono ?_
  rintro e w1 ⟨ka', kc', rfl, hst, hb⟩
  have v0 : w1.cell? ⟨w.heap.size + 1, 0, none⟩ = some (.slice none 0 0) := by rw [hb.cell (by simp)]; simp
  have v1 : w1.cell? ⟨w.heap.size + 1, 1, none⟩ = some (.slice none 0 0) := by rw [hb.cell (by simp)]; simp
  have f0 : w1.frozen? ⟨w.heap.size + 1, 0, none⟩ = false := by rw [hb.frozen (by simp)]; simp
  have f1 : w1.frozen? ⟨w.heap.size + 1, 1, none⟩ = false := by rw [hb.frozen (by simp)]; simp
  go_wp2
  exact bodyPost_ret (v := .agg #[.slice ka' kn kc', .slice none 0 0]) (by simp [results, Try.results38, go_sem, v0, v1]) rfl (retThr_nil (((Below.refl _ _).alloc (Nat.le_refl _) _).alloc (by simp) _) (by simp) hb hst)

theorem Inv38.start (w : World) (ka : Option Addr) (kn kc : Nat) (ca : Option Addr) (cn cc : Nat) (C : Nat → CondV) :
    Inv38 w (((w.alloc (.cells #[.slice ka kn kc, .slice ca cn cc] 54)).alloc (.cells #[.slice none 0 0, .slice none 0 0] 64)).alloc (madeObj (.pointer none) cn 98)) ka kn kc ca cn cc C 0 (fun i => (madeCells (Value.pointer none).cells cn).getD i undef) := by
  refine ⟨((World.rowIs_alloc w #[.slice ka kn kc, .slice ca cn cc] 54 _ (fun i hi => ?_)).alloc _).alloc _, ?_, ?_, fun j hj => absurd hj (Nat.not_lt_zero _), (((Below.refl _ _).alloc (Nat.le_refl _) _).alloc (by simp) _).alloc (by simp; omega) _⟩
  · match i, hi with
    | 0, _ => rfl
    | 1, _ => rfl
  · have := (World.rowIs_alloc (w.alloc (.cells #[.slice ka kn kc, .slice ca cn cc] 54)) #[.slice none 0 0, .slice none 0 0] 64 (fun _ => .slice none 0 0) (fun i hi => by
      match i, hi with
      | 0, _ => rfl
      | 1, _ => rfl)).alloc (madeObj (.pointer none) cn 98)
    simpa using this
  · have := made_row ((w.alloc (.cells #[.slice ka kn kc, .slice ca cn cc] 54)).alloc (.cells #[.slice none 0 0, .slice none 0 0] 64)) (.pointer none) cn 98
    simpa using this

set_option maxHeartbeats 1000000 in
theorem threshold_some (ka : Option Addr) (kn kc : Nat) (K : Nat → ByteArray) (x : Addr) (cn cc : Nat) (C : Nat → CondV) (w : World) (hK : Strs 0 w ka kn kc K) (hC : Conds w (some x) cn cc C) :
    Calls Try.prog 38 #[.agg #[.slice ka kn kc, .slice (some x) cn cc]] w fun e w' => RetThr w kn K cn C e w' := by
  have c1 := hC.le
  have c2 := hC.cap
  have ha := hC.here
  clear hC
  have heq := fun w a n c => run_neq_slice_nil_any (P := Try.prog) w 52 56 a n c 0 0 Try.underlying52
  have hmk := make_eq (P := Try.prog) 62 98 (.pointer none) 1 8 Try.underlying62 info98 cn (by omega) (by omega)
  rw [Nat.mul_one] at hmk
  go_enter Try.func38, Try.ntmps38
  go_wp2
  go_loopw [4] (fun i wr => ∃ (k : Nat) (f : Nat → Value), k ≤ cn ∧ i = .int .i64 k ∧ Inv38 w wr ka kn kc (some x) cn cc C k f) (fun i _ => cn - (intOf i).toNat)
  case atStart => exact ⟨0, _, Nat.zero_le _, rfl, Inv38.start w ka kn kc (some x) cn cc C⟩
  case round =>
    obtain ⟨k, f, hk, rfl, hI⟩ := hrel
    have y0 := hI.b0.cell (i := 0) (by omega)
    have y1 := hI.b0.cell (i := 1) (by omega)
    simp only [if_true, if_false, Nat.one_ne_zero] at y0 y1
    have hz := hI.b2.lt
    by_cases hlt : k < cn
    · obtain ⟨b, o, hao, hbl, hat⟩ := ha (by omega)
      have hck := (hat k hlt).later hbl hI.be
      have hs2 := hck.s2
      simp only [Option.some.injEq] at hao
      subst hao
      obtain ⟨x0, x1, x2, x3, -, -, -, -⟩ := hck
      have z0 := hI.b2.cell hlt
      have z1 := hI.b2.frozen k
      clear hat ha hmk
      go_wp2_with (first | (go_at_call 45; refine (condition_any _ _ _ _ _ _ _ _ hs2).mono ?_; rintro e w1 ⟨p, rfl, hp, hb1⟩; have z0' := (hb1.cell (p := ⟨w.heap.size + 2, k, none⟩) hz).trans z0; have z1' := (hb1.frozen (p := ⟨w.heap.size + 2, k, none⟩) hz).trans z1))
      go_roundw
      case rel => exact ⟨k + 1, _, by omega, by go_num, hI.step hb1 hp⟩
      case measure => simp [intOf]; omega
    · obtain rfl : k = cn := by omega
      have hbe := hI.be
      have a0 := hI.b1.cell (i := 0) (by omega)
      have a1 := hI.b1.cell (i := 1) (by omega)
      have g0 := hI.b1.frozen 0
      have g1 := hI.b1.frozen 1
      clear hmk ha
      go_wp2_with fail
      refine (kinds_any _ _ _ K _ (hK.later hbe)).mono ?_
      rintro e w1 ⟨ka', kc', rfl, hst, hb⟩
      have v0 : w1.cell? ⟨w.heap.size + 1, 0, none⟩ = some (.slice none 0 0) := (hb.cell (p := ⟨w.heap.size + 1, 0, none⟩) (by show w.heap.size + 1 < wr.heap.size; omega)).trans a0
      have v1 : w1.cell? ⟨w.heap.size + 1, 1, none⟩ = some (.slice none 0 0) := (hb.cell (p := ⟨w.heap.size + 1, 1, none⟩) (by show w.heap.size + 1 < wr.heap.size; omega)).trans a1
      have f0 : w1.frozen? ⟨w.heap.size + 1, 0, none⟩ = false := (hb.frozen (p := ⟨w.heap.size + 1, 0, none⟩) (by show w.heap.size + 1 < wr.heap.size; omega)).trans g0
      have f1 : w1.frozen? ⟨w.heap.size + 1, 1, none⟩ = false := (hb.frozen (p := ⟨w.heap.size + 1, 1, none⟩) (by show w.heap.size + 1 < wr.heap.size; omega)).trans g1
      go_wp2
      exact bodyPost_ret (v := .agg #[.slice ka' kn kc', .slice (some ⟨w.heap.size + 2, 0, none⟩) k k]) (by simp [results, Try.results38, go_sem, v0, v1]) rfl (hI.done hb hst)

theorem threshold_any (ka : Option Addr) (kn kc : Nat) (K : Nat → ByteArray) (ca : Option Addr) (cn cc : Nat) (C : Nat → CondV) (w : World) (hK : Strs 0 w ka kn kc K) (hC : Conds w ca cn cc C) :
    Calls Try.prog 38 #[.agg #[.slice ka kn kc, .slice ca cn cc]] w fun e w' => RetThr w kn K cn C e w' := by
  cases ca with
  | none => obtain ⟨rfl, rfl⟩ := hC.nil rfl; exact threshold_nil ka kn kc K C w hK
  | some x => exact threshold_some ka kn kc K x cn cc C w hK hC

/-- One threshold of the profile's own. -/
def PThr1 (B : Nat) (w : World) (b o : Nat) (d : ThrV) : Prop :=
  ∃ ka kc aa ac, w.cell? ⟨b, o, none⟩ = some (.slice ka d.kn kc) ∧ w.cell? ⟨b, o + 1, none⟩ = some (.slice aa d.cn ac) ∧ Strs B w ka d.kn kc d.K ∧ PConds B w aa d.cn d.C

theorem PThr1.same {B : Nat} {w w' : World} {b o : Nat} {d : ThrV} (h : PThr1 B w b o d) (h1 : B ≤ b) (h2 : b < w.heap.size) (hb : Same B w w') : PThr1 B w' b o d := by
  obtain ⟨ka, kc, aa, ac, c0, c1, s0, s1⟩ := h
  exact ⟨ka, kc, aa, ac, (hb.cell (p := ⟨b, o, none⟩) h1 h2).trans c0, (hb.cell (p := ⟨b, o + 1, none⟩) h1 h2).trans c1, s0.same hb, s1.same hb⟩

theorem PThr1.mono {B B' : Nat} {w : World} {b o : Nat} {d : ThrV} (h : PThr1 B w b o d) (hB : B' ≤ B) : PThr1 B' w b o d := by
  obtain ⟨ka, kc, aa, ac, c0, c1, s0, s1⟩ := h
  exact ⟨ka, kc, aa, ac, c0, c1, s0.mono hB, s1.mono hB⟩

structure PThrs (B : Nat) (w : World) (a : Option Addr) (n : Nat) (T : Nat → ThrV) : Prop where
  max : n ≤ 140737488351232
  nil : a = none → n = 0
  here : 0 < n → ∃ b o, a = some ⟨b, o, none⟩ ∧ (B ≤ b ∧ b < w.heap.size) ∧ ∀ i, i < n → PThr1 B w b (o + i * 2) (T i)

theorem PThrs.same {B : Nat} {w w' : World} {a : Option Addr} {n : Nat} {T : Nat → ThrV} (h : PThrs B w a n T) (hb : Same B w w') : PThrs B w' a n T := by
  refine ⟨h.max, h.nil, fun hn => ?_⟩
  obtain ⟨b, o, e, hl, hc⟩ := h.here hn
  exact ⟨b, o, e, ⟨hl.1, Nat.lt_of_lt_of_le hl.2 hb.size⟩, fun i hi => (hc i hi).same hl.1 hl.2 hb⟩

theorem PThrs.mono {B B' : Nat} {w : World} {a : Option Addr} {n : Nat} {T : Nat → ThrV} (h : PThrs B w a n T) (hB : B' ≤ B) : PThrs B' w a n T := by
  refine ⟨h.max, h.nil, fun hn => ?_⟩
  obtain ⟨b, o, e, hl, hc⟩ := h.here hn
  exact ⟨b, o, e, ⟨Nat.le_trans hB hl.1, hl.2⟩, fun i hi => (hc i hi).mono hB⟩

def RetThrs (w : World) (n : Nat) (T : Nat → ThrV) (e : Ending) (w' : World) : Prop :=
  ∃ a c, e = .returned (.slice a n c) ∧ PThrs w.heap.size w' a n T ∧ Below w.heap.size w w'

/-- What holds at each round's head of zzThresholds' loop. -/
structure Inv25 (w wr : World) (n : Nat) (T : Nat → ThrV) (k : Nat) (f : Nat → Value) : Prop where
  b0 : wr.rowIs w.heap.size 64 (n * 2) f
  dn : ∀ j, j < k → ∃ ka kc aa ac, f (j * 2) = .slice ka (T j).kn kc ∧ f (j * 2 + 1) = .slice aa (T j).cn ac ∧ Strs (w.heap.size + 1) wr ka (T j).kn kc (T j).K ∧ PConds (w.heap.size + 1) wr aa (T j).cn (T j).C
  be : Below w.heap.size w wr

theorem Inv25.step {w wr w1 : World} {n : Nat} {T : Nat → ThrV} {k : Nat} {f : Nat → Value} {ka : Option Addr} {kc : Nat} {aa : Option Addr} {ac : Nat}
    (h : Inv25 w wr n T k f) (hb : Below wr.heap.size wr w1) (hk : Strs wr.heap.size w1 ka (T k).kn kc (T k).K) (hc : PConds wr.heap.size w1 aa (T k).cn (T k).C) :
    Inv25 w ((w1.setCell ⟨w.heap.size, k * 2, none⟩ (.slice ka (T k).kn kc)).setCell ⟨w.heap.size, k * 2 + 1, none⟩ (.slice aa (T k).cn ac)) n T (k + 1)
      (fun j => if j = k * 2 + 1 then .slice aa (T k).cn ac else if j = k * 2 then .slice ka (T k).kn kc else f j) := by
  have hz := h.b0.lt
  have s1 : Same (w.heap.size + 1) wr w1 := .of_below hb
  have s2 : Same (w.heap.size + 1) w1 ((w1.setCell ⟨w.heap.size, k * 2, none⟩ (.slice ka (T k).kn kc)).setCell ⟨w.heap.size, k * 2 + 1, none⟩ (.slice aa (T k).cn ac)) :=
    (Same.setCell w1 (by simp) _).trans (.setCell _ (by simp) _)
  refine ⟨((rowIs_below h.b0 hb).set (k * 2) _).set (k * 2 + 1) _, fun j hj => ?_, ((h.be.trans (hb.mono h.be.size)).setCell (by simp) _).setCell (by simp) _⟩
  by_cases e : j = k
  · subst e
    exact ⟨ka, kc, aa, ac, by simp, by simp, (hk.mono (by omega)).same s2, (hc.mono (by omega)).same s2⟩
  · obtain ⟨ka', kc', aa', ac', e1, e2, e3, e4⟩ := h.dn j (by omega)
    exact ⟨ka', kc', aa', ac', by rw [if_neg (by omega), if_neg (by omega), e1], by rw [if_neg (by omega), if_neg (by omega), e2], e3.same (s1.trans s2), e4.same (s1.trans s2)⟩

theorem Inv25.done {w wr : World} {n : Nat} {T : Nat → ThrV} {f : Nat → Value} (h : Inv25 w wr n T n f) (hn : n ≤ 140737488351232) : RetThrs w n T (.returned (.slice (some ⟨w.heap.size, 0, none⟩) n n)) wr := by
  refine ⟨_, _, rfl, ⟨hn, fun e => (by cases e), fun _ => ⟨_, _, rfl, ⟨Nat.le_refl _, h.b0.lt⟩, fun i hi => ?_⟩⟩, h.be⟩
  obtain ⟨ka, kc, aa, ac, e1, e2, e3, e4⟩ := h.dn i hi
  exact ⟨ka, kc, aa, ac, by rw [Nat.zero_add, h.b0.cell (by omega), e1], by rw [Nat.zero_add, h.b0.cell (by omega), e2], e3.mono (by omega), e4.mono (by omega)⟩

theorem info64 : (Try.prog.info? 64).map (fun i => (i.zero, i.size, i.bytes)) = some (some (.agg #[.slice none 0 0, .slice none 0 0]), 2, 48) := by kernel_rfl

set_option maxHeartbeats 1000000 in
theorem thresholds_any (a : Option Addr) (n c : Nat) (T : Nat → ThrV) (w : World) (h : Thrs w a n c T) :
    Calls Try.prog 25 #[.slice a n c] w fun e w' => RetThrs w n T e w' := by
  have c1 := h.le
  have c2 := h.cap
  have ha := h.here
  have hn := h.nil
  clear h
  have heq := fun w a n c => Lib.run_eql_slice_nil (P := Try.prog) w 32 54 a n c 0 0 Try.underlying32
  cases a with
  | none =>
    obtain ⟨rfl, rfl⟩ := hn rfl
    clear hn ha
    go_enter Try.func25, Try.ntmps25
    go_wp2
    go_ret
    exact ⟨_, _, rfl, ⟨by omega, fun _ => rfl, fun h => absurd h (Nat.lt_irrefl _)⟩, Below.refl _ _⟩
  | some x =>
    clear hn
    have hmk := make_eq (P := Try.prog) 36 64 (.agg #[.slice none 0 0, .slice none 0 0]) 2 48 Try.underlying36 info64 n (by omega) (by omega)
    go_enter Try.func25, Try.ntmps25
    go_wp2
    go_loopw [4] (fun i wr => ∃ (k : Nat) (f : Nat → Value), k ≤ n ∧ i = .int .i64 k ∧ Inv25 w wr n T k f) (fun i _ => n - (intOf i).toNat)
    case atStart => exact ⟨0, _, Nat.zero_le _, rfl, made_row w _ (n * 2) 64, fun j hj => absurd hj (Nat.not_lt_zero _), (Below.refl _ _).alloc (Nat.le_refl _) _⟩
    case round =>
      obtain ⟨k, f, hk, rfl, hI⟩ := hrel
      have hz := hI.b0.lt
      by_cases hlt : k < n
      · obtain ⟨b, o, hao, hbl, hat⟩ := ha (by omega)
        have hck := (hat k hlt).later hbl hI.be
        simp only [Option.some.injEq] at hao
        subst hao
        obtain ⟨x0, x1, s0, s1⟩ := hck
        have z0 := hI.b0.cell (i := k * 2) (by omega)
        have z1 := hI.b0.frozen (k * 2)
        have z2 := hI.b0.cell (i := k * 2 + 1) (by omega)
        have z3 := hI.b0.frozen (k * 2 + 1)
        clear hat ha hmk
        go_wp2_with (first | (go_at_call 38; refine (threshold_any _ _ _ _ _ _ _ _ _ s0 s1).mono ?_; rintro e w1 ⟨ka, kc, aa, ac, rfl, hst, hpc, hb1⟩; have z0' := (hb1.cell (p := ⟨w.heap.size, k * 2, none⟩) hz).trans z0; have z1' := (hb1.frozen (p := ⟨w.heap.size, k * 2, none⟩) hz).trans z1; have z2' := (hb1.cell (p := ⟨w.heap.size, k * 2 + 1, none⟩) hz).trans z2; have z3' := (hb1.frozen (p := ⟨w.heap.size, k * 2 + 1, none⟩) hz).trans z3))
        go_roundw
        case rel => exact ⟨k + 1, _, by omega, by go_num, hI.step hb1 hst hpc⟩
        case measure => simp [intOf]; omega
      · obtain rfl : k = n := by omega
        clear hmk ha
        go_wp2
        go_ret
        exact hI.done (by omega)
end Go.Proofs.Qxb6604078a
