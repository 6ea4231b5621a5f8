import Derived.Test.Qxb6604078aA
namespace Go.Proofs.Qxb6604078a
open Go.RowKit

/-! ### Steps, deal types (two strings each), routes -/

structure TwoV where
  x : ByteArray
  y : ByteArray

structure RouteV where
  bo : ByteArray
  ti : ByteArray
  sa : Option Addr
  sn : Nat
  sc : Nat
  S : Nat → TwoV
  ta : Option Addr
  tn : Nat
  tc : Nat
  T : Nat → ThrV

structure Two1 (w : World) (b o : Nat) (d : TwoV) : Prop where
  c0 : w.cell? ⟨b, o, none⟩ = some (.string d.x)
  c1 : w.cell? ⟨b, o + 1, none⟩ = some (.string d.y)
  s0 : d.x.size ≤ 9223372036854775807
  s1 : d.y.size ≤ 9223372036854775807

structure Twos (w : World) (a : Option Addr) (n c : Nat) (S : Nat → TwoV) : Prop where
  le : n ≤ c
  cap : c * 32 ≤ 140737488351232
  nil : a = none → n = 0 ∧ c = 0
  here : 0 < n → ∃ b o, a = some ⟨b, o, none⟩ ∧ b < w.heap.size ∧ ∀ i, i < n → Two1 w b (o + i * 2) (S i)

structure Rt1 (w : World) (b o : Nat) (d : RouteV) : Prop where
  c0 : w.cell? ⟨b, o, none⟩ = some (.string d.bo)
  c1 : w.cell? ⟨b, o + 1, none⟩ = some (.string d.ti)
  c2 : w.cell? ⟨b, o + 2, none⟩ = some (.slice d.sa d.sn d.sc)
  c3 : w.cell? ⟨b, o + 3, none⟩ = some (.slice d.ta d.tn d.tc)
  s0 : d.bo.size ≤ 9223372036854775807
  s1 : d.ti.size ≤ 9223372036854775807
  s2 : Twos w d.sa d.sn d.sc d.S
  s3 : Thrs w d.ta d.tn d.tc d.T

structure Rts (w : World) (a : Option Addr) (n c : Nat) (R : Nat → RouteV) : Prop where
  le : n ≤ c
  cap : c * 80 ≤ 140737488351232
  nil : a = none → n = 0 ∧ c = 0
  here : 0 < n → ∃ b o, a = some ⟨b, o, none⟩ ∧ b < w.heap.size ∧ ∀ i, i < n → Rt1 w b (o + i * 4) (R i)

theorem Two1.later {w w' : World} {b o : Nat} {d : TwoV} (h : Two1 w b o d) (hl : b < w.heap.size) (hb : Below w.heap.size w w') : Two1 w' b o d :=
  ⟨(hb.cell (p := ⟨b, o, none⟩) hl).trans h.c0, (hb.cell (p := ⟨b, o + 1, none⟩) hl).trans h.c1, h.s0, h.s1⟩

theorem Twos.later {w w' : World} {a : Option Addr} {n c : Nat} {S : Nat → TwoV} (h : Twos w a n c S) (hb : Below w.heap.size w w') : Twos w' a n c S := by
  refine ⟨h.le, h.cap, h.nil, fun hn => ?_⟩
  obtain ⟨b, o, e, hl, hc⟩ := h.here hn
  exact ⟨b, o, e, Nat.lt_of_lt_of_le hl hb.size, fun i hi => (hc i hi).later hl hb⟩

theorem Rt1.later {w w' : World} {b o : Nat} {d : RouteV} (h : Rt1 w b o d) (hl : b < w.heap.size) (hb : Below w.heap.size w w') : Rt1 w' b o d :=
  ⟨(hb.cell (p := ⟨b, o, none⟩) hl).trans h.c0, (hb.cell (p := ⟨b, o + 1, none⟩) hl).trans h.c1, (hb.cell (p := ⟨b, o + 2, none⟩) hl).trans h.c2, (hb.cell (p := ⟨b, o + 3, none⟩) hl).trans h.c3, h.s0, h.s1, h.s2.later hb, h.s3.later hb⟩

theorem Rts.later {w w' : World} {a : Option Addr} {n c : Nat} {R : Nat → RouteV} (h : Rts w a n c R) (hb : Below w.heap.size w w') : Rts w' a n c R := by
  refine ⟨h.le, h.cap, h.nil, fun hn => ?_⟩
  obtain ⟨b, o, e, hl, hc⟩ := h.here hn
  exact ⟨b, o, e, Nat.lt_of_lt_of_le hl hb.size, fun i hi => (hc i hi).later hl hb⟩

end Go.Proofs.Qxb6604078a
