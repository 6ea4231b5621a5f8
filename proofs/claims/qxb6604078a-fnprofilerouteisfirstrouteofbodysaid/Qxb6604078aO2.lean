import Derived.Test.Qxb6604078aO
import Derived.Test.Qxb6604078aA2
namespace Go.Proofs.Qxb6604078a
open Go.RowKit Go.ChangeShapes Go.WideShapes

theorem cells31 : Try.prog.cellsOf 31 = 1 := by kernel_rfl
theorem cells32 : Try.prog.cellsOf 32 = 1 := by kernel_rfl
theorem cells34 : Try.prog.cellsOf 34 = 4 := by kernel_rfl
theorem cells71 : Try.prog.cellsOf 71 = 2 := by kernel_rfl
theorem cells72 : Try.prog.cellsOf 72 = 2 := by kernel_rfl
theorem bytes34 : Try.prog.bytesOf 34 = 80 := by kernel_rfl
theorem bytes71 : Try.prog.bytesOf 71 = 32 := by kernel_rfl
theorem bytes72 : Try.prog.bytesOf 72 = 32 := by kernel_rfl

section
variable {H : Type} {enc : TypeId × Value → H} {w : World}

theorem twos_of {a : Option Addr} {n c : Nat} (h1 : n ≤ c) (h2 : c * 32 ≤ 140737488351232) (h3 : a = none → n = 0 ∧ c = 0)
    (h4 : 0 < n → ∃ b o, a = some ⟨b, o, none⟩ ∧ b < w.heap.size ∧ ∀ i, i < n → ∃ d : TwoV, Two1 w b (o + i * 2) d) : ∃ S, Twos w a n c S := by
  have inh : Inhabited TwoV := ⟨⟨⟨#[]⟩, ⟨#[]⟩⟩⟩
  rcases Nat.eq_zero_or_pos n with rfl | hn
  · exact ⟨fun _ => default, h1, h2, h3, fun h => absurd h (Nat.lt_irrefl _)⟩
  · obtain ⟨b, o, rfl, hb, hx⟩ := h4 hn
    obtain ⟨S, hS⟩ := Go.Deep.choose_lt hx
    exact ⟨S, h1, h2, h3, fun _ => ⟨b, o, rfl, hb, hS⟩⟩

theorem open_step {fuel : Nat} {cs : List Value} {x : DataW H × List MemPlace} (h : DataW.trod enc Try.prog w 0 (fun _ => true) true fuel 72 cs = some x) (hL : Light Try.prog 72 x.1) :
    ∃ d : TwoV, cs = [.string d.x, .string d.y] ∧ d.x.size ≤ 9223372036854775807 ∧ d.y.size ≤ 9223372036854775807 := by
  obtain ⟨n, hl, hf⟩ := open_fields Try.underlying72 h hL
  rw [cells72] at hl
  obtain ⟨v0, v1, rfl⟩ := list2 hl
  obtain ⟨y0, a0, b0⟩ := field_at hf 0 9 0 1 rfl cells9
  obtain ⟨y1, a1, b1⟩ := field_at hf 1 9 1 1 rfl cells9
  simp only [List.drop_zero, List.drop_succ_cons, List.take_succ_cons, List.take_zero] at a0 a1
  obtain ⟨s0, e0, z0⟩ := open_str a0
  obtain ⟨s1, e1, z1⟩ := open_str a1
  simp only [List.cons.injEq, and_true] at e0 e1
  subst e0 e1
  exact ⟨⟨s0, s1⟩, rfl, z0, z1⟩

theorem open_steps {fuel : Nat} {cs : List Value} {x : DataW H × List MemPlace} (h : DataW.trod enc Try.prog w 0 (fun _ => true) true fuel 31 cs = some x) (hL : Light Try.prog 31 x.1) :
    ∃ a n c S, cs = [.slice a n c] ∧ Twos w a n c S := by
  obtain ⟨a, n, c, rfl, h1, h2, h3, h4⟩ := open_rows Try.underlying31 cells72 bytes72 (by decide) h hL
  obtain ⟨S, hS⟩ := twos_of (w := w) h1 h2 h3 (fun hn => by
    obtain ⟨b, o, rfl, hb, hx⟩ := h4 hn
    refine ⟨b, o, rfl, hb, fun i hi => ?_⟩
    obtain ⟨cs', y, m, e1, e2, e3, e4⟩ := hx i hi
    obtain ⟨d, rfl, z0, z1⟩ := open_step e3 e4
    exact ⟨d, by simpa using e2 0 (by decide), by simpa using e2 1 (by decide), z0, z1⟩)
  exact ⟨a, n, c, S, rfl, hS⟩

theorem open_deal {fuel : Nat} {cs : List Value} {x : DataW H × List MemPlace} (h : DataW.trod enc Try.prog w 0 (fun _ => true) true fuel 71 cs = some x) (hL : Light Try.prog 71 x.1) :
    ∃ d : TwoV, cs = [.string d.x, .string d.y] ∧ d.x.size ≤ 9223372036854775807 ∧ d.y.size ≤ 9223372036854775807 := by
  obtain ⟨n, hl, hf⟩ := open_fields Try.underlying71 h hL
  rw [cells71] at hl
  obtain ⟨v0, v1, rfl⟩ := list2 hl
  obtain ⟨y0, a0, b0⟩ := field_at hf 0 9 0 1 rfl cells9
  obtain ⟨y1, a1, b1⟩ := field_at hf 1 9 1 1 rfl cells9
  simp only [List.drop_zero, List.drop_succ_cons, List.take_succ_cons, List.take_zero] at a0 a1
  obtain ⟨s0, e0, z0⟩ := open_str a0
  obtain ⟨s1, e1, z1⟩ := open_str a1
  simp only [List.cons.injEq, and_true] at e0 e1
  subst e0 e1
  exact ⟨⟨s0, s1⟩, rfl, z0, z1⟩

theorem open_deals {fuel : Nat} {cs : List Value} {x : DataW H × List MemPlace} (h : DataW.trod enc Try.prog w 0 (fun _ => true) true fuel 22 cs = some x) (hL : Light Try.prog 22 x.1) :
    ∃ a n c S, cs = [.slice a n c] ∧ Twos w a n c S := by
  obtain ⟨a, n, c, rfl, h1, h2, h3, h4⟩ := open_rows Try.underlying22 cells71 bytes71 (by decide) h hL
  obtain ⟨S, hS⟩ := twos_of (w := w) h1 h2 h3 (fun hn => by
    obtain ⟨b, o, rfl, hb, hx⟩ := h4 hn
    refine ⟨b, o, rfl, hb, fun i hi => ?_⟩
    obtain ⟨cs', y, m, e1, e2, e3, e4⟩ := hx i hi
    obtain ⟨d, rfl, z0, z1⟩ := open_deal e3 e4
    exact ⟨d, by simpa using e2 0 (by decide), by simpa using e2 1 (by decide), z0, z1⟩)
  exact ⟨a, n, c, S, rfl, hS⟩

theorem open_route {fuel : Nat} {cs : List Value} {x : DataW H × List MemPlace} (h : DataW.trod enc Try.prog w 0 (fun _ => true) true fuel 34 cs = some x) (hL : Light Try.prog 34 x.1) :
    ∃ d : RouteV, cs = [.string d.bo, .string d.ti, .slice d.sa d.sn d.sc, .slice d.ta d.tn d.tc] ∧ d.bo.size ≤ 9223372036854775807 ∧ d.ti.size ≤ 9223372036854775807 ∧ Twos w d.sa d.sn d.sc d.S ∧ Thrs w d.ta d.tn d.tc d.T := by
  obtain ⟨n, hl, hf⟩ := open_fields Try.underlying34 h hL
  rw [cells34] at hl
  obtain ⟨v0, v1, v2, v3, rfl⟩ := list4 hl
  obtain ⟨y0, a0, b0⟩ := field_at hf 0 9 0 1 rfl cells9
  obtain ⟨y1, a1, b1⟩ := field_at hf 1 9 1 1 rfl cells9
  obtain ⟨y2, a2, b2⟩ := field_at hf 2 31 2 1 rfl cells31
  obtain ⟨y3, a3, b3⟩ := field_at hf 3 32 3 1 rfl cells32
  simp only [List.drop_zero, List.drop_succ_cons, List.take_succ_cons, List.take_zero] at a0 a1 a2 a3
  obtain ⟨s0, e0, z0⟩ := open_str a0
  obtain ⟨s1, e1, z1⟩ := open_str a1
  obtain ⟨sa, sn, sc, S, e2, z2⟩ := open_steps a2 b2
  obtain ⟨ta, tn, tc, T, e3, z3⟩ := open_thrs a3 b3
  simp only [List.cons.injEq, and_true] at e0 e1 e2 e3
  subst e0 e1 e2 e3
  exact ⟨⟨s0, s1, sa, sn, sc, S, ta, tn, tc, T⟩, rfl, z0, z1, z2, z3⟩

theorem open_routes {fuel : Nat} {cs : List Value} {x : DataW H × List MemPlace} (h : DataW.trod enc Try.prog w 0 (fun _ => true) true fuel 23 cs = some x) (hL : Light Try.prog 23 x.1) :
    ∃ a n c R, cs = [.slice a n c] ∧ Rts w a n c R := by
  obtain ⟨a, n, c, rfl, h1, h2, h3, h4⟩ := open_rows Try.underlying23 cells34 bytes34 (by decide) h hL
  have inh2 : Inhabited TwoV := ⟨⟨⟨#[]⟩, ⟨#[]⟩⟩⟩
  have inhC : Inhabited CondV := ⟨⟨⟨#[]⟩, ⟨#[]⟩, none, 0, 0, fun _ => ⟨#[]⟩, ⟨#[]⟩⟩⟩
  have inhT : Inhabited ThrV := ⟨⟨none, 0, 0, fun _ => ⟨#[]⟩, none, 0, 0, fun _ => default⟩⟩
  have inh : Inhabited RouteV := ⟨⟨⟨#[]⟩, ⟨#[]⟩, none, 0, 0, fun _ => default, none, 0, 0, fun _ => default⟩⟩
  rcases Nat.eq_zero_or_pos n with rfl | hn
  · exact ⟨a, 0, c, fun _ => default, rfl, h1, h2, h3, fun h => absurd h (Nat.lt_irrefl _)⟩
  · obtain ⟨b, o, rfl, hb, hx⟩ := h4 hn
    have : ∀ i, i < n → ∃ d : RouteV, Rt1 w b (o + i * 4) d := fun i hi => by
      obtain ⟨cs', y, m, e1, e2, e3, e4⟩ := hx i hi
      obtain ⟨d, rfl, z0, z1, z2, z3⟩ := open_route e3 e4
      exact ⟨d, by simpa using e2 0 (by decide), by simpa using e2 1 (by decide), by simpa using e2 2 (by decide), by simpa using e2 3 (by decide), z0, z1, z2, z3⟩
    obtain ⟨R, hR⟩ := Go.Deep.choose_lt this
    exact ⟨_, n, c, R, rfl, h1, h2, h3, fun _ => ⟨b, o, rfl, hb, hR⟩⟩
end
end Go.Proofs.Qxb6604078a
