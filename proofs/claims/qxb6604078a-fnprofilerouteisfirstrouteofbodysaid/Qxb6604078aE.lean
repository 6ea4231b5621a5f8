import Derived.Test.Qxb6604078aD
import Derived.Deep.RegionHeld3
namespace Go.Proofs.Qxb6604078a
open Go.RowKit

/-- A condition of the profile's own lies in block p: its list of figures. -/
structure PCond (B : Nat) (w : World) (p : Nat) (n : Nat) (O : Nat → ByteArray) : Prop where
  from_ : B ≤ p
  lt : p < w.heap.size
  of : ∃ a c, w.cell? ⟨p, 2, none⟩ = some (.slice a n c) ∧ Strs B w a n c O

theorem PCond.same {B : Nat} {w w' : World} {p n : Nat} {O : Nat → ByteArray} (h : PCond B w p n O) (hb : Same B w w') : PCond B w' p n O := by
  obtain ⟨hB, hl, a, c, h1, h2⟩ := h
  exact ⟨hB, Nat.lt_of_lt_of_le hl hb.size, a, c, (hb.cell (p := ⟨p, 2, none⟩) hB hl).trans h1, h2.same hb⟩

theorem PCond.mono {B B' : Nat} {w : World} {p n : Nat} {O : Nat → ByteArray} (h : PCond B w p n O) (hB : B' ≤ B) : PCond B' w p n O := by
  obtain ⟨h0, hl, a, c, h1, h2⟩ := h
  exact ⟨Nat.le_trans hB h0, hl, a, c, h1, h2.mono hB⟩

theorem cell_new (w : World) (C : Array Value) (t : TypeId) {i : Nat} {v : Value} (h : C[i]? = some v) : (w.alloc (.cells C t)).cell? ⟨w.heap.size, i, none⟩ = some v := by
  have h2 : i < C.size := (Array.getElem?_eq_some_iff.1 h).1
  have := (World.rowIs_alloc w C t (fun i => (C[i]?).getD undef) (fun i hi => by simp [hi])).cell h2
  rw [h] at this
  exact this

def RetCond (w : World) (n : Nat) (O : Nat → ByteArray) (e : Ending) (w' : World) : Prop :=
  ∃ p, e = .returned (.pointer (some ⟨p, 0, none⟩)) ∧ PCond w.heap.size w' p n O ∧ Below w.heap.size w w'

theorem retCond_mk {w w0 w1 : World} {n : Nat} {O : Nat → ByteArray} {a : Option Addr} {c : Nat} {C : Array Value} {t : TypeId} (h0 : Below w.heap.size w w0) (h1 : Below w0.heap.size w0 w1) (hs : Strs w0.heap.size w1 a n c O)
    (hC : C[2]? = some (.slice a n c)) : RetCond w n O (.returned (.pointer (some ⟨w1.heap.size, 0, none⟩))) (w1.alloc (.cells C t)) := by
  have hb : Below w.heap.size w w1 := h0.trans (h1.mono h0.size)
  have hg : Below w1.heap.size w1 (w1.alloc (.cells C t)) := (Below.refl _ _).alloc (Nat.le_refl _) _
  refine ⟨_, rfl, ⟨hb.size, by simp, a, c, ?_, (hs.mono h0.size).later hg⟩, hb.alloc hb.size _⟩
  exact cell_new w1 C t hC

set_option maxHeartbeats 1000000 in
theorem condition_any (am sh bd : ByteArray) (oa : Option Addr) (on oc : Nat) (O : Nat → ByteArray) (w : World) (h : Strs 0 w oa on oc O) :
    Calls Try.prog 45 #[.agg #[.string am, .string sh, .slice oa on oc, .string bd]] w fun e w' => RetCond w on O e w' := by
  go_enter Try.func45, Try.ntmps45
  go_wp2
  go_region_held3 (fun w' => w'.cell? ⟨w.heap.size, 0, none⟩ = some (.string am) ∧ w'.cell? ⟨w.heap.size, 1, none⟩ = some (.string sh) ∧ w'.cell? ⟨w.heap.size, 2, none⟩ = some (.slice oa on oc) ∧ w'.cell? ⟨w.heap.size, 3, none⟩ = some (.string bd))
    (first | (simp; done) | (refine ⟨?_, ?_, ?_, ?_⟩ <;> (rw [hb1.cell (by simp)]; simp; done)) | go_keep)
    (first | (go_at_call 49; refine (copyStrings_any _ _ _ O _ ?_).mono ?_; (exact h.later ((Below.refl _ _).alloc (Nat.le_refl _) _).drew); rintro e w1 ⟨a1, c1, rfl, hst1, hb1⟩))
  go_wp2
  go_ret
  exact retCond_mk (((Below.refl _ _).alloc (Nat.le_refl _) _).drew) hb1 hst1 rfl
end Go.Proofs.Qxb6604078a
