import Derived.Test.Qxb6604078aProg
import Derived.WalkKit
import Derived.WalkSpells
import Derived.WalkLawsBesides
namespace Go.Proofs.Qxb6604078a
open Go.RowKit

/-- The call hands back some bool. -/
def RetB (e : Ending) : Prop := ∃ b : Bool, e = .returned (.bool b)
theorem retB (b : Bool) : RetB (.returned (.bool b)) := ⟨b, rfl⟩
theorem retB' {v : Value} {b : Bool} (h : v = .bool b) : RetB (.returned v) := ⟨b, by rw [h]⟩
/-- The call hands back some int. -/
def RetI (e : Ending) : Prop := ∃ r : Int, e = .returned (.int .i64 r)
theorem retI (r : Int) : RetI (.returned (.int .i64 r)) := ⟨r, rfl⟩

/-! ### What the arguments hold: plain structures of values, and where they lie -/

/-- A slice of strings: its header and its strings. -/
structure SsV where
  a : Option Addr
  n : Nat
  c : Nat
  S : Nat → ByteArray

/-- A condition. -/
structure CondV where
  am : ByteArray
  sh : ByteArray
  oa : Option Addr
  on : Nat
  oc : Nat
  O : Nat → ByteArray
  bd : ByteArray

/-- A threshold: the counterparties' slice, the conditions' slice. -/
structure ThrV where
  ka : Option Addr
  kn : Nat
  kc : Nat
  K : Nat → ByteArray
  ca : Option Addr
  cn : Nat
  cc : Nat
  C : Nat → CondV

/-- The strings behind a slice, which lie from block B on. -/
structure Strs (B : Nat) (w : World) (a : Option Addr) (n c : Nat) (S : Nat → ByteArray) : Prop where
  le : n ≤ c
  cap : c * 16 ≤ 140737488351232
  nil : a = none → n = 0 ∧ c = 0
  here : 0 < n → ∃ b o, a = some ⟨b, o, none⟩ ∧ (B ≤ b ∧ b < w.heap.size) ∧ ∀ i, i < n → w.cell? ⟨b, o + i, none⟩ = some (.string (S i))
  size : ∀ i, i < n → (S i).size ≤ 9223372036854775807

/-- One condition at a place. -/
structure Cond1 (w : World) (b o : Nat) (d : CondV) : Prop where
  c0 : w.cell? ⟨b, o, none⟩ = some (.string d.am)
  c1 : w.cell? ⟨b, o + 1, none⟩ = some (.string d.sh)
  c2 : w.cell? ⟨b, o + 2, none⟩ = some (.slice d.oa d.on d.oc)
  c3 : w.cell? ⟨b, o + 3, none⟩ = some (.string d.bd)
  s0 : d.am.size ≤ 9223372036854775807
  s1 : d.sh.size ≤ 9223372036854775807
  s2 : Strs 0 w d.oa d.on d.oc d.O
  s3 : d.bd.size ≤ 9223372036854775807

structure Conds (w : World) (a : Option Addr) (n c : Nat) (C : Nat → CondV) : Prop where
  le : n ≤ c
  cap : c * 72 ≤ 140737488351232
  nil : a = none → n = 0 ∧ c = 0
  here : 0 < n → ∃ b o, a = some ⟨b, o, none⟩ ∧ b < w.heap.size ∧ ∀ i, i < n → Cond1 w b (o + i * 4) (C i)

/-- One threshold at a place. -/
structure Thr1 (w : World) (b o : Nat) (d : ThrV) : Prop where
  c0 : w.cell? ⟨b, o, none⟩ = some (.slice d.ka d.kn d.kc)
  c1 : w.cell? ⟨b, o + 1, none⟩ = some (.slice d.ca d.cn d.cc)
  s0 : Strs 0 w d.ka d.kn d.kc d.K
  s1 : Conds w d.ca d.cn d.cc d.C

structure Thrs (w : World) (a : Option Addr) (n c : Nat) (T : Nat → ThrV) : Prop where
  le : n ≤ c
  cap : c * 48 ≤ 140737488351232
  nil : a = none → n = 0 ∧ c = 0
  here : 0 < n → ∃ b o, a = some ⟨b, o, none⟩ ∧ b < w.heap.size ∧ ∀ i, i < n → Thr1 w b (o + i * 2) (T i)

/-! ### They lie so in every later world -/

/-- From block B on nothing that was there has turned. -/
structure Same (B : Nat) (w w' : World) : Prop where
  size : w.heap.size ≤ w'.heap.size
  block : ∀ k, B ≤ k → k < w.heap.size → w'.heap[k]? = w.heap[k]?

theorem Same.cell {B : Nat} {w w' : World} (h : Same B w w') {p : Addr} (h1 : B ≤ p.block) (h2 : p.block < w.heap.size) : w'.cell? p = w.cell? p := World.cell?_of_block (w := w) (h.block p.block h1 h2)
theorem Same.trans {B : Nat} {a b c : World} (h : Same B a b) (k : Same B b c) : Same B a c :=
  ⟨Nat.le_trans h.size k.size, fun i hi hl => (k.block i hi (Nat.lt_of_lt_of_le hl h.size)).trans (h.block i hi hl)⟩
theorem Same.mono {B B' : Nat} {w w' : World} (h : Same B w w') (hB : B ≤ B') : Same B' w w' := ⟨h.size, fun k hk hl => h.block k (Nat.le_trans hB hk) hl⟩
theorem Same.of_below {B : Nat} {w w' : World} (h : Below w.heap.size w w') : Same B w w' := ⟨h.size, fun k _ hl => h.block k hl⟩
theorem Same.setCell {B : Nat} (w : World) {a : Addr} (ha : a.block < B) (v : Value) : Same B w (w.setCell a v) :=
  ⟨by simp [World.setCell], fun k hk _ => Below.heap_setCell _ _ _ _ (by omega)⟩

theorem Strs.same {B : Nat} {w w' : World} {a : Option Addr} {n c : Nat} {S : Nat → ByteArray} (h : Strs B w a n c S) (hb : Same B w w') : Strs B w' a n c S := by
  refine ⟨h.le, h.cap, h.nil, fun hn => ?_, h.size⟩
  obtain ⟨b, o, e, hl, hc⟩ := h.here hn
  exact ⟨b, o, e, ⟨hl.1, Nat.lt_of_lt_of_le hl.2 hb.size⟩, fun i hi => (hb.cell (p := ⟨b, o + i, none⟩) hl.1 hl.2).trans (hc i hi)⟩

theorem Strs.later {B : Nat} {w w' : World} {a : Option Addr} {n c : Nat} {S : Nat → ByteArray} (h : Strs B w a n c S) (hb : Below w.heap.size w w') : Strs B w' a n c S := h.same (.of_below hb)

theorem Strs.mono {B B' : Nat} {w : World} {a : Option Addr} {n c : Nat} {S : Nat → ByteArray} (h : Strs B w a n c S) (hB : B' ≤ B) : Strs B' w a n c S := by
  refine ⟨h.le, h.cap, h.nil, fun hn => ?_, h.size⟩
  obtain ⟨b, o, e, hl, hc⟩ := h.here hn
  exact ⟨b, o, e, ⟨Nat.le_trans hB hl.1, hl.2⟩, hc⟩

theorem Cond1.later {w w' : World} {b o : Nat} {d : CondV} (h : Cond1 w b o d) (hl : b < w.heap.size) (hb : Below w.heap.size w w') : Cond1 w' b o d :=
  ⟨(hb.cell (p := ⟨b, o, none⟩) hl).trans h.c0, (hb.cell (p := ⟨b, o + 1, none⟩) hl).trans h.c1, (hb.cell (p := ⟨b, o + 2, none⟩) hl).trans h.c2, (hb.cell (p := ⟨b, o + 3, none⟩) hl).trans h.c3, h.s0, h.s1, h.s2.later hb, h.s3⟩

theorem Conds.later {w w' : World} {a : Option Addr} {n c : Nat} {C : Nat → CondV} (h : Conds w a n c C) (hb : Below w.heap.size w w') : Conds w' a n c C := by
  refine ⟨h.le, h.cap, h.nil, fun hn => ?_⟩
  obtain ⟨b, o, e, hl, hc⟩ := h.here hn
  exact ⟨b, o, e, Nat.lt_of_lt_of_le hl hb.size, fun i hi => (hc i hi).later hl hb⟩

theorem Thr1.later {w w' : World} {b o : Nat} {d : ThrV} (h : Thr1 w b o d) (hl : b < w.heap.size) (hb : Below w.heap.size w w') : Thr1 w' b o d :=
  ⟨(hb.cell (p := ⟨b, o, none⟩) hl).trans h.c0, (hb.cell (p := ⟨b, o + 1, none⟩) hl).trans h.c1, h.s0.later hb, h.s1.later hb⟩

theorem Thrs.later {w w' : World} {a : Option Addr} {n c : Nat} {T : Nat → ThrV} (h : Thrs w a n c T) (hb : Below w.heap.size w w') : Thrs w' a n c T := by
  refine ⟨h.le, h.cap, h.nil, fun hn => ?_⟩
  obtain ⟨b, o, e, hl, hc⟩ := h.here hn
  exact ⟨b, o, e, Nat.lt_of_lt_of_le hl hb.size, fun i hi => (hc i hi).later hl hb⟩

end Go.Proofs.Qxb6604078a
