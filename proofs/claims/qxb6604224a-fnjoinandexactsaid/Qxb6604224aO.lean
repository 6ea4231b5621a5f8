import Derived.Test.Qxb6604224aT
import Derived.Deep.Slices
import Derived.SizedLaws
namespace Go.Proofs.Qxb6604224a
open Go.RowKit Go.ChangeShapes Go.WideShapes

/-! ### From the reading of an argument to where its parts lie -/

/-- Each weight of the datum is within the reach. -/
def Light {H : Type} (P : Program) (t : TypeId) (d : DataW H) : Prop := ∀ m ∈ d.weights P t, m ≤ 140737488351232

theorem light_of {H : Type} {P : Program} {ts : List TypeId} {ds : List (DataW H)} (h : (DataW.weightsEach P ts ds).all (· ≤ reachBytes) = true) {j : Nat} {t : TypeId} {d : DataW H} (ht : ts[j]? = some t) (hd : ds[j]? = some d) : Light P t d := fun m hm => by
  have := List.all_eq_true.1 h m (DataW.weights_mem_each ht hd m hm)
  exact of_decide_eq_true this

theorem weights_mem_all {H : Type} {P : Program} {e : TypeId} : ∀ {l : List (DataW H)} {d : DataW H}, d ∈ l → ∀ m ∈ d.weights P e, m ∈ DataW.weightsAll P e l
  | d0 :: l, d, hd, m, hm => by
    simp only [DataW.weightsAll, List.mem_append]
    rcases List.mem_cons.1 hd with rfl | h
    · exact .inl hm
    · exact .inr (weights_mem_all h m hm)
  | [], _, hd, _, _ => absurd hd (List.not_mem_nil)

theorem light_slice {H : Type} {P : Program} {t e : TypeId} {elems spare : List (DataW H)} (hu : P.underlying t = some (.slice e)) (h : Light P t (.slice elems spare)) :
    (elems.length + spare.length) * P.bytesOf e ≤ 140737488351232 ∧ ∀ d ∈ elems, Light P e d := by
  constructor
  · exact h _ (by simp [DataW.weights, hu])
  · intro d hd m hm
    refine h m ?_
    simp only [DataW.weights, hu, List.mem_cons, List.mem_append]
    exact .inr (.inl (weights_mem_all hd m hm))

section
variable {H : Type} {enc : TypeId × Value → H} {P : Program} {w : World}

/-- A SLICE OF WHATEVER ELEMENTS. -/
theorem open_rows {t e : TypeId} {sz bytes fuel : Nat} {cs : List Value} {x : DataW H × List MemPlace} (ht : P.underlying t = some (.slice e)) (hc : P.cellsOf e = sz) (hby : P.bytesOf e = bytes) (hsz : 0 < sz)
    (h : DataW.trod enc P w 0 (fun _ => true) true fuel t cs = some x) (hL : Light P t x.1) :
    ∃ a n c, cs = [.slice a n c] ∧ n ≤ c ∧ c * bytes ≤ 140737488351232 ∧ (a = none → n = 0 ∧ c = 0) ∧
      (0 < n → ∃ b o, a = some ⟨b, o, none⟩ ∧ b < w.heap.size ∧ ∀ i, i < n → ∃ cs' y m, cs'.length = sz ∧ (∀ j, j < sz → w.cell? ⟨b, o + i * sz + j, none⟩ = cs'[j]?) ∧ DataW.trod enc P w 0 (fun _ => true) true m e cs' = some y ∧ Light P e y.1) := by
  rcases Go.Deep.open_slice ht h with ⟨rfl, rfl⟩ | ⟨a, len, cap, m, n, D, Pl, rfl, hb, hl, hm, hmm, rfl, hx⟩
  · exact ⟨none, 0, 0, rfl, Nat.le_refl _, by omega, fun _ => ⟨rfl, rfl⟩, fun h => absurd h (Nat.lt_irrefl _)⟩
  · simp only [if_true] at hmm
    subst hmm
    obtain ⟨l1, l2⟩ := light_slice ht hL
    simp only [List.length_map, List.length_range] at l1
    rw [hby, show len + (m - len) = m from by omega] at l1
    refine ⟨some a, len, m, rfl, hl, l1, fun e => (by cases e), fun hn => ?_⟩
    rw [hc] at hx
    obtain ⟨cs0, h1, _⟩ := hx 0 (by omega)
    obtain ⟨_, q1, q2⟩ := World.cells?_some h1
    have q3 := q2 0 hsz
    rw [List.getElem?_eq_getElem (by omega)] at q3
    simp [Addr.add] at q3
    obtain ⟨b, o, spot⟩ := a
    have hspot : spot = none := by simpa using World.cell?_spot q3
    subst hspot
    refine ⟨b, o, rfl, World.block_lt_of_cell? _ _ q3, fun i hi => ?_⟩
    obtain ⟨cs', g1, g2⟩ := hx i (by omega)
    obtain ⟨_, g3, g4⟩ := World.cells?_some g1
    refine ⟨cs', _, n, g3, fun j hj => ?_, g2, ?_⟩
    · have := g4 j hj
      rw [Go.Deep.add_add, add_plain] at this
      rw [← this, Nat.add_assoc]
    · exact l2 _ (List.mem_map.2 ⟨i, by simpa using hi, rfl⟩)

end

theorem cells9 : Try.prog.cellsOf 9 = 1 := by kernel_rfl
theorem bytes9 : Try.prog.bytesOf 9 = 16 := by kernel_rfl

section
variable {H : Type} {enc : TypeId × Value → H} {w : World}

theorem open_str {fuel : Nat} {cs : List Value} {x : DataW H × List MemPlace} (h : DataW.trod enc Try.prog w 0 (fun _ => true) true fuel 9 cs = some x) : ∃ s : ByteArray, cs = [.string s] ∧ s.size ≤ 9223372036854775807 := by
  obtain ⟨s, h1, _, h3⟩ := DataW.trod_string Try.underlying9 h
  exact ⟨s, h1, by unfold maxLen at h3; omega⟩

theorem open_ss {fuel : Nat} {cs : List Value} {x : DataW H × List MemPlace} (h : DataW.trod enc Try.prog w 0 (fun _ => true) true fuel 22 cs = some x) (hL : Light Try.prog 22 x.1) :
    ∃ a n c S, cs = [.slice a n c] ∧ Strs w a n c S := by
  obtain ⟨a, n, c, rfl, h1, h2, h3, h4⟩ := open_rows Try.underlying22 cells9 bytes9 (by decide) h hL
  rcases Nat.eq_zero_or_pos n with rfl | hn
  · exact ⟨a, 0, c, fun _ => ⟨#[]⟩, rfl, h1, h2, h3, fun h => absurd h (Nat.lt_irrefl _), fun i hi => absurd hi (Nat.not_lt_zero _)⟩
  · obtain ⟨b, o, rfl, hb, hx⟩ := h4 hn
    have : ∀ i, i < n → ∃ s : ByteArray, w.cell? ⟨b, o + i, none⟩ = some (.string s) ∧ s.size ≤ 9223372036854775807 := fun i hi => by
      obtain ⟨cs', y, m, e1, e2, e3, _⟩ := hx i hi
      obtain ⟨s, rfl, hs⟩ := open_str e3
      exact ⟨s, by simpa using e2 0 (by decide), hs⟩
    have inh : Inhabited ByteArray := ⟨⟨#[]⟩⟩
    obtain ⟨S, hS⟩ := Go.Deep.choose_lt this
    exact ⟨_, n, c, S, rfl, h1, h2, h3, fun _ => ⟨b, o, rfl, hb, fun i hi => (hS i hi).1⟩, fun i hi => (hS i hi).2⟩

end
end Go.Proofs.Qxb6604224a
