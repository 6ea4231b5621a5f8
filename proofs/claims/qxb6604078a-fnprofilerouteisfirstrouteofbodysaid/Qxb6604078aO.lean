import Derived.Test.Qxb6604078aD
import Derived.Deep.Slices
import Derived.SizedLaws
namespace Go.Proofs.Qxb6604078a
open Go.RowKit Go.ChangeShapes Go.WideShapes

/-! ### From the reading of an argument to where its parts lie -/

/-- Each weight of the datum is within the reach. -/
def Light {H : Type} (P : Program) (t : TypeId) (d : DataW H) : Prop := ∀ m ∈ d.weights P t, m ≤ 140737488351232

theorem light_of {H : Type} {P : Program} {ts : List TypeId} {ds : List (DataW H)} (h : (DataW.weightsEach P ts ds).all (· ≤ reachBytes) = true) {j : Nat} {t : TypeId} {d : DataW H} (ht : ts[j]? = some t) (hd : ds[j]? = some d) : Light P t d := fun m hm => by
  have := List.all_eq_true.1 h m (DataW.weights_mem_each ht hd m hm)
  exact of_decide_eq_true this

theorem weights_mem_all {H : Type} {P : Program} {e : TypeId} : ∀ {l : List (DataW H)} {d : DataW H}, d ∈ l → ∀ m ∈ d.weights P e, m ∈ DataW.weightsAll P e l
  | d0 :: l, d, hd, m, hm => by
    simp only [DataW.weightsAll, List.mem_append]
    rcases List.mem_cons.1 hd with rfl | h
    · exact .inl hm
    · exact .inr (weights_mem_all h m hm)
  | [], _, hd, _, _ => absurd hd (List.not_mem_nil)

theorem light_slice {H : Type} {P : Program} {t e : TypeId} {elems spare : List (DataW H)} (hu : P.underlying t = some (.slice e)) (h : Light P t (.slice elems spare)) :
    (elems.length + spare.length) * P.bytesOf e ≤ 140737488351232 ∧ ∀ d ∈ elems, Light P e d := by
  constructor
  · exact h _ (by simp [DataW.weights, hu])
  · intro d hd m hm
    refine h m ?_
    simp only [DataW.weights, hu, List.mem_cons, List.mem_append]
    exact .inr (.inl (weights_mem_all hd m hm))

theorem light_agg {H : Type} {P : Program} {t : TypeId} {fs : Array Field} {parts : List (DataW H)} (hu : P.underlying t = some (.struct fs)) (h : Light P t (.agg parts)) {i : Nat} {f : Field} {d : DataW H} (hf : fs[i]? = some f) (hd : parts[i]? = some d) : Light P f.type d := by
  intro m hm
  refine h m ?_
  simp only [DataW.weights, hu]
  exact DataW.weights_mem_each (j := i) (t := f.type) (by simp [hf]) hd m hm

section
variable {H : Type} {enc : TypeId × Value → H} {P : Program} {w : World}

/-- A SLICE OF WHATEVER ELEMENTS. -/
theorem open_rows {t e : TypeId} {sz bytes fuel : Nat} {cs : List Value} {x : DataW H × List MemPlace} (ht : P.underlying t = some (.slice e)) (hc : P.cellsOf e = sz) (hby : P.bytesOf e = bytes) (hsz : 0 < sz)
    (h : DataW.trod enc P w 0 (fun _ => true) true fuel t cs = some x) (hL : Light P t x.1) :
    ∃ a n c, cs = [.slice a n c] ∧ n ≤ c ∧ c * bytes ≤ 140737488351232 ∧ (a = none → n = 0 ∧ c = 0) ∧
      (0 < n → ∃ b o, a = some ⟨b, o, none⟩ ∧ b < w.heap.size ∧ ∀ i, i < n → ∃ cs' y m, cs'.length = sz ∧ (∀ j, j < sz → w.cell? ⟨b, o + i * sz + j, none⟩ = cs'[j]?) ∧ DataW.trod enc P w 0 (fun _ => true) true m e cs' = some y ∧ Light P e y.1) := by
  rcases Go.Deep.open_slice ht h with ⟨rfl, rfl⟩ | ⟨a, len, cap, m, n, D, Pl, rfl, hb, hl, hm, hmm, rfl, hx⟩
  · exact ⟨none, 0, 0, rfl, Nat.le_refl _, by omega, fun _ => ⟨rfl, rfl⟩, fun h => absurd h (Nat.lt_irrefl _)⟩
  · simp only [if_true] at hmm
    subst hmm
    obtain ⟨l1, l2⟩ := light_slice ht hL
    simp only [List.length_map, List.length_range] at l1
    rw [hby, show len + (m - len) = m from by omega] at l1
    refine ⟨some a, len, m, rfl, hl, l1, fun e => (by cases e), fun hn => ?_⟩
    rw [hc] at hx
    obtain ⟨cs0, h1, _⟩ := hx 0 (by omega)
    obtain ⟨_, q1, q2⟩ := World.cells?_some h1
    have q3 := q2 0 hsz
    rw [List.getElem?_eq_getElem (by omega)] at q3
    simp [Addr.add] at q3
    obtain ⟨b, o, spot⟩ := a
    have hspot : spot = none := by simpa using World.cell?_spot q3
    subst hspot
    refine ⟨b, o, rfl, World.block_lt_of_cell? _ _ q3, fun i hi => ?_⟩
    obtain ⟨cs', g1, g2⟩ := hx i (by omega)
    obtain ⟨_, g3, g4⟩ := World.cells?_some g1
    refine ⟨cs', _, n, g3, fun j hj => ?_, g2, ?_⟩
    · have := g4 j hj
      rw [Go.Deep.add_add, add_plain] at this
      rw [← this, Nat.add_assoc]
    · exact l2 _ (List.mem_map.2 ⟨i, by simpa using hi, rfl⟩)

/-- A STRUCT, FIELD BY FIELD. -/
theorem open_fields {t : TypeId} {fs : Array Field} {fuel : Nat} {cs : List Value} {x : DataW H × List MemPlace} (ht : P.underlying t = some (.struct fs))
    (h : DataW.trod enc P w 0 (fun _ => true) true fuel t cs = some x) (hL : Light P t x.1) :
    ∃ n, cs.length = P.cellsOf t ∧ ∀ (i : Nat) (f : Field), fs[i]? = some f → ∃ y, DataW.trod enc P w 0 (fun _ => true) true n f.type ((cs.drop f.offset).take (P.cellsOf f.type)) = some y ∧ Light P f.type y.1 := by
  obtain ⟨xs, n, _, rfl, hl, hxs, hf⟩ := DataW.trod_struct ht h
  refine ⟨n, hl, fun i f hi => ?_⟩
  have hlt : i < fs.size := (Array.getElem?_eq_some_iff.1 hi).1
  have e : xs[i]? = some (xs[i]'(by omega)) := List.getElem?_eq_getElem (by omega)
  refine ⟨xs[i]'(by omega), by rw [hf i f hi, e], light_agg ht hL hi ?_⟩
  simp [e]

end

/-- One field out of 'open_fields': its type, its place, its cells typed out. -/
theorem field_at {H : Type} {enc : TypeId × Value → H} {P : Program} {w : World} {fs : Array Field} {cs : List Value} {n : Nat}
    (hf : ∀ (i : Nat) (f : Field), fs[i]? = some f → ∃ y, DataW.trod enc P w 0 (fun _ => true) true n f.type ((cs.drop f.offset).take (P.cellsOf f.type)) = some y ∧ Light P f.type y.1)
    (i t o c : Nat) (h : (fs[i]?).map (fun f => (f.type, f.offset)) = some (t, o)) (hc : P.cellsOf t = c) : ∃ y, DataW.trod enc P w 0 (fun _ => true) true n t ((cs.drop o).take c) = some y ∧ Light P t y.1 := by
  obtain ⟨f, h1, h2⟩ := Option.map_eq_some_iff.1 h
  simp only [Prod.mk.injEq] at h2
  have := hf i f h1
  rw [h2.1, h2.2, hc] at this
  exact this

theorem list1 {α : Type} {l : List α} (h : l.length = 1) : ∃ a, l = [a] := by
  match l, h with
  | [a], _ => exact ⟨a, rfl⟩
theorem list2 {α : Type} {l : List α} (h : l.length = 2) : ∃ a b, l = [a, b] := by
  match l, h with
  | [a, b], _ => exact ⟨a, b, rfl⟩
theorem list4 {α : Type} {l : List α} (h : l.length = 4) : ∃ a b c d, l = [a, b, c, d] := by
  match l, h with
  | [a, b, c, d], _ => exact ⟨a, b, c, d, rfl⟩

theorem cells9 : Try.prog.cellsOf 9 = 1 := by kernel_rfl
theorem cells51 : Try.prog.cellsOf 51 = 1 := by kernel_rfl
theorem cells52 : Try.prog.cellsOf 52 = 1 := by kernel_rfl
theorem cells54 : Try.prog.cellsOf 54 = 2 := by kernel_rfl
theorem cells56 : Try.prog.cellsOf 56 = 4 := by kernel_rfl
theorem bytes9 : Try.prog.bytesOf 9 = 16 := by kernel_rfl
theorem bytes54 : Try.prog.bytesOf 54 = 48 := by kernel_rfl
theorem bytes56 : Try.prog.bytesOf 56 = 72 := by kernel_rfl

section
variable {H : Type} {enc : TypeId × Value → H} {w : World}

theorem open_str {fuel : Nat} {cs : List Value} {x : DataW H × List MemPlace} (h : DataW.trod enc Try.prog w 0 (fun _ => true) true fuel 9 cs = some x) : ∃ s : ByteArray, cs = [.string s] ∧ s.size ≤ 9223372036854775807 := by
  obtain ⟨s, h1, _, h3⟩ := DataW.trod_string Try.underlying9 h
  exact ⟨s, h1, by unfold maxLen at h3; omega⟩

theorem open_ss {fuel : Nat} {cs : List Value} {x : DataW H × List MemPlace} (h : DataW.trod enc Try.prog w 0 (fun _ => true) true fuel 51 cs = some x) (hL : Light Try.prog 51 x.1) :
    ∃ a n c S, cs = [.slice a n c] ∧ Strs 0 w a n c S := by
  obtain ⟨a, n, c, rfl, h1, h2, h3, h4⟩ := open_rows Try.underlying51 cells9 bytes9 (by decide) h hL
  rcases Nat.eq_zero_or_pos n with rfl | hn
  · exact ⟨a, 0, c, fun _ => ⟨#[]⟩, rfl, h1, h2, h3, fun h => absurd h (Nat.lt_irrefl _), fun i hi => absurd hi (Nat.not_lt_zero _)⟩
  · obtain ⟨b, o, rfl, hb, hx⟩ := h4 hn
    have : ∀ i, i < n → ∃ s : ByteArray, w.cell? ⟨b, o + i, none⟩ = some (.string s) ∧ s.size ≤ 9223372036854775807 := fun i hi => by
      obtain ⟨cs', y, m, e1, e2, e3, _⟩ := hx i hi
      obtain ⟨s, rfl, hs⟩ := open_str e3
      exact ⟨s, by simpa using e2 0 (by decide), hs⟩
    have inh : Inhabited ByteArray := ⟨⟨#[]⟩⟩
    obtain ⟨S, hS⟩ := Go.Deep.choose_lt this
    exact ⟨_, n, c, S, rfl, h1, h2, h3, fun _ => ⟨b, o, rfl, ⟨Nat.zero_le _, hb⟩, fun i hi => (hS i hi).1⟩, fun i hi => (hS i hi).2⟩

theorem open_cond {fuel : Nat} {cs : List Value} {x : DataW H × List MemPlace} (h : DataW.trod enc Try.prog w 0 (fun _ => true) true fuel 56 cs = some x) (hL : Light Try.prog 56 x.1) :
    ∃ d : CondV, cs = [.string d.am, .string d.sh, .slice d.oa d.on d.oc, .string d.bd] ∧ d.am.size ≤ 9223372036854775807 ∧ d.sh.size ≤ 9223372036854775807 ∧ Strs 0 w d.oa d.on d.oc d.O ∧ d.bd.size ≤ 9223372036854775807 := by
  obtain ⟨n, hl, hf⟩ := open_fields Try.underlying56 h hL
  rw [cells56] at hl
  obtain ⟨v0, v1, v2, v3, rfl⟩ := list4 hl
  obtain ⟨y0, a0, _⟩ := field_at hf 0 9 0 1 rfl cells9
  obtain ⟨y1, a1, _⟩ := field_at hf 1 9 1 1 rfl cells9
  obtain ⟨y2, a2, b2⟩ := field_at hf 2 51 2 1 rfl cells51
  obtain ⟨y3, a3, _⟩ := field_at hf 3 9 3 1 rfl cells9
  simp only [List.drop_zero, List.drop_succ_cons, List.take_succ_cons, List.take_zero] at a0 a1 a2 a3
  obtain ⟨s0, e0, z0⟩ := open_str a0
  obtain ⟨s1, e1, z1⟩ := open_str a1
  obtain ⟨a, n, c, S, e2, z2⟩ := open_ss a2 b2
  obtain ⟨s3, e3, z3⟩ := open_str a3
  simp only [List.cons.injEq, and_true] at e0 e1 e2 e3
  subst e0 e1 e2 e3
  exact ⟨⟨s0, s1, a, n, c, S, s3⟩, rfl, z0, z1, z2, z3⟩

theorem open_conds {fuel : Nat} {cs : List Value} {x : DataW H × List MemPlace} (h : DataW.trod enc Try.prog w 0 (fun _ => true) true fuel 52 cs = some x) (hL : Light Try.prog 52 x.1) :
    ∃ a n c C, cs = [.slice a n c] ∧ Conds w a n c C := by
  obtain ⟨a, n, c, rfl, h1, h2, h3, h4⟩ := open_rows Try.underlying52 cells56 bytes56 (by decide) h hL
  have inh : Inhabited CondV := ⟨⟨⟨#[]⟩, ⟨#[]⟩, none, 0, 0, fun _ => ⟨#[]⟩, ⟨#[]⟩⟩⟩
  rcases Nat.eq_zero_or_pos n with rfl | hn
  · exact ⟨a, 0, c, fun _ => default, rfl, h1, h2, h3, fun h => absurd h (Nat.lt_irrefl _)⟩
  · obtain ⟨b, o, rfl, hb, hx⟩ := h4 hn
    have : ∀ i, i < n → ∃ d : CondV, Cond1 w b (o + i * 4) d := fun i hi => by
      obtain ⟨cs', y, m, e1, e2, e3, e4⟩ := hx i hi
      obtain ⟨d, rfl, z0, z1, z2, z3⟩ := open_cond e3 e4
      exact ⟨d, by simpa using e2 0 (by decide), by simpa using e2 1 (by decide), by simpa using e2 2 (by decide), by simpa using e2 3 (by decide), z0, z1, z2, z3⟩
    obtain ⟨C, hC⟩ := Go.Deep.choose_lt this
    exact ⟨_, n, c, C, rfl, h1, h2, h3, fun _ => ⟨b, o, rfl, hb, hC⟩⟩

theorem open_thr {fuel : Nat} {cs : List Value} {x : DataW H × List MemPlace} (h : DataW.trod enc Try.prog w 0 (fun _ => true) true fuel 54 cs = some x) (hL : Light Try.prog 54 x.1) :
    ∃ d : ThrV, cs = [.slice d.ka d.kn d.kc, .slice d.ca d.cn d.cc] ∧ Strs 0 w d.ka d.kn d.kc d.K ∧ Conds w d.ca d.cn d.cc d.C := by
  obtain ⟨n, hl, hf⟩ := open_fields Try.underlying54 h hL
  rw [cells54] at hl
  obtain ⟨v0, v1, rfl⟩ := list2 hl
  obtain ⟨y0, a0, b0⟩ := field_at hf 0 51 0 1 rfl cells51
  obtain ⟨y1, a1, b1⟩ := field_at hf 1 52 1 1 rfl cells52
  simp only [List.drop_zero, List.drop_succ_cons, List.take_succ_cons, List.take_zero] at a0 a1
  obtain ⟨a, n, c, S, e0, z0⟩ := open_ss a0 b0
  obtain ⟨a', n', c', C, e1, z1⟩ := open_conds a1 b1
  simp only [List.cons.injEq, and_true] at e0 e1
  subst e0 e1
  exact ⟨⟨a, n, c, S, a', n', c', C⟩, rfl, z0, z1⟩

theorem open_thrs {fuel : Nat} {cs : List Value} {x : DataW H × List MemPlace} (h : DataW.trod enc Try.prog w 0 (fun _ => true) true fuel 32 cs = some x) (hL : Light Try.prog 32 x.1) :
    ∃ a n c T, cs = [.slice a n c] ∧ Thrs w a n c T := by
  obtain ⟨a, n, c, rfl, h1, h2, h3, h4⟩ := open_rows Try.underlying32 cells54 bytes54 (by decide) h hL
  have inhC : Inhabited CondV := ⟨⟨⟨#[]⟩, ⟨#[]⟩, none, 0, 0, fun _ => ⟨#[]⟩, ⟨#[]⟩⟩⟩
  have inh : Inhabited ThrV := ⟨⟨none, 0, 0, fun _ => ⟨#[]⟩, none, 0, 0, fun _ => default⟩⟩
  rcases Nat.eq_zero_or_pos n with rfl | hn
  · exact ⟨a, 0, c, fun _ => default, rfl, h1, h2, h3, fun h => absurd h (Nat.lt_irrefl _)⟩
  · obtain ⟨b, o, rfl, hb, hx⟩ := h4 hn
    have : ∀ i, i < n → ∃ d : ThrV, Thr1 w b (o + i * 2) d := fun i hi => by
      obtain ⟨cs', y, m, e1, e2, e3, e4⟩ := hx i hi
      obtain ⟨d, rfl, z0, z1⟩ := open_thr e3 e4
      exact ⟨d, by simpa using e2 0 (by decide), by simpa using e2 1 (by decide), z0, z1⟩
    obtain ⟨T, hT⟩ := Go.Deep.choose_lt this
    exact ⟨_, n, c, T, rfl, h1, h2, h3, fun _ => ⟨b, o, rfl, hb, hT⟩⟩
end
end Go.Proofs.Qxb6604078a
