import Derived.Test.Qxb6604078aO2
import Derived.Test.Qxb6604078aW5
namespace Go.Proofs.Qxb6604078a
open Go.RowKit Go.ChangeShapes Go.WideShapes

theorem cells3 : Try.prog.cellsOf 3 = 1 := by kernel_rfl
theorem cells73 : Try.prog.cellsOf 73 = 1 := by kernel_rfl
theorem cells75 : Try.prog.cellsOf 75 = 3 := by kernel_rfl
theorem cells77 : Try.prog.cellsOf 77 = 3 := by kernel_rfl

theorem list3 {α : Type} {l : List α} (h : l.length = 3) : ∃ a b c, l = [a, b, c] := by
  match l, h with
  | [a, b, c], _ => exact ⟨a, b, c, rfl⟩

section
variable {H : Type} {enc : TypeId × Value → H} {P : Program} {w : World}

/-- A POINTER, AND WHAT IT LEADS TO. -/
theorem open_pt {t e : TypeId} {sz fuel : Nat} {cs : List Value} {x : DataW H × List MemPlace} (ht : P.underlying t = some (.pointer e)) (hc : P.cellsOf e = sz) (hsz : 0 < sz)
    (h : DataW.trod enc P w 0 (fun _ => true) true fuel t cs = some x) (hL : Light P t x.1) :
    ∃ p, cs = [.pointer p] ∧ (p = none ∨ ∃ b o, p = some ⟨b, o, none⟩ ∧ b < w.heap.size ∧ ∃ cs' y m, cs'.length = sz ∧ (∀ j, j < sz → w.cell? ⟨b, o + j, none⟩ = cs'[j]?) ∧ DataW.trod enc P w 0 (fun _ => true) true m e cs' = some y ∧ Light P e y.1) := by
  rcases DataW.trod_pointer ht h with ⟨rfl, _⟩ | ⟨a, cs', y, n, _, rfl, rfl, h1, h2⟩
  · exact ⟨none, rfl, .inl rfl⟩
  · refine ⟨some a, rfl, .inr ?_⟩
    rw [hc] at h1
    obtain ⟨_, q1, q2⟩ := World.cells?_some h1
    have q3 := q2 0 hsz
    rw [List.getElem?_eq_getElem (by omega)] at q3
    simp [Addr.add] at q3
    obtain ⟨b, o, spot⟩ := a
    have hspot : spot = none := by simpa using World.cell?_spot q3
    subst hspot
    refine ⟨b, o, rfl, World.block_lt_of_cell? _ _ q3, cs', y, n, q1, fun j hj => ?_, h2, fun m hm => hL m ?_⟩
    · have := q2 j hj
      rw [add_plain] at this
      exact this
    · simp only [DataW.weights, ht]
      exact hm

end

section
variable {H : Type} {enc : TypeId × Value → H} {w : World}

theorem open_hc {fuel : Nat} {cs : List Value} {x : DataW H × List MemPlace} (h : DataW.trod enc Try.prog w 0 (fun _ => true) true fuel 73 cs = some x) (hL : Light Try.prog 73 x.1) : ∃ p, cs = [.pointer p] ∧ HC w p := by
  obtain ⟨p, rfl, hp⟩ := open_pt Try.underlying73 cells77 (by decide) h hL
  refine ⟨p, rfl, ?_⟩
  rcases hp with rfl | ⟨b, o, rfl, hl, cs', y, m, e1, e2, e3, e4⟩
  · exact .inl rfl
  obtain ⟨n, hl2, hf⟩ := open_fields Try.underlying77 e3 e4
  obtain ⟨v0, v1, v2, rfl⟩ := list3 e1
  obtain ⟨y0, a0, _⟩ := field_at hf 0 3 0 1 rfl cells3
  obtain ⟨y1, a1, _⟩ := field_at hf 1 9 1 1 rfl cells9
  obtain ⟨y2, a2, _⟩ := field_at hf 2 9 2 1 rfl cells9
  simp only [List.drop_zero, List.drop_succ_cons, List.take_succ_cons, List.take_zero] at a0 a1 a2
  obtain ⟨k, g0, _⟩ := DataW.trod_int Try.underlying3 a0
  obtain ⟨s1, g1, z1⟩ := open_str a1
  obtain ⟨s2, g2, z2⟩ := open_str a2
  simp only [List.cons.injEq, and_true] at g0 g1 g2
  subst g0 g1 g2
  exact .inr ⟨b, o, rfl, hl, k, s1, s2, by simpa using e2 0 (by decide), by simpa using e2 1 (by decide), by simpa using e2 2 (by decide), z1, z2⟩

theorem open_bv {fuel : Nat} {cs : List Value} {x : DataW H × List MemPlace} (h : DataW.trod enc Try.prog w 0 (fun _ => true) true fuel 24 cs = some x) (hL : Light Try.prog 24 x.1) : ∃ p, cs = [.pointer p] ∧ BV w p := by
  obtain ⟨p, rfl, hp⟩ := open_pt Try.underlying24 cells75 (by decide) h hL
  refine ⟨p, rfl, ?_⟩
  rcases hp with rfl | ⟨b, o, rfl, hl, cs', y, m, e1, e2, e3, e4⟩
  · exact .inl rfl
  obtain ⟨n, hl2, hf⟩ := open_fields Try.underlying75 e3 e4
  obtain ⟨v0, v1, v2, rfl⟩ := list3 e1
  obtain ⟨y0, a0, b0⟩ := field_at hf 0 73 0 1 rfl cells73
  obtain ⟨y1, a1, b1⟩ := field_at hf 1 73 1 1 rfl cells73
  obtain ⟨y2, a2, b2⟩ := field_at hf 2 73 2 1 rfl cells73
  simp only [List.drop_zero, List.drop_succ_cons, List.take_succ_cons, List.take_zero] at a0 a1 a2
  obtain ⟨p0, g0, z0⟩ := open_hc a0 b0
  obtain ⟨p1, g1, z1⟩ := open_hc a1 b1
  obtain ⟨p2, g2, z2⟩ := open_hc a2 b2
  simp only [List.cons.injEq, and_true] at g0 g1 g2
  subst g0 g1 g2
  exact .inr ⟨b, o, rfl, hl, p0, p1, p2, by simpa using e2 0 (by decide), by simpa using e2 1 (by decide), by simpa using e2 2 (by decide), z0, z1, z2⟩
end
end Go.Proofs.Qxb6604078a
