import Derived.Test.Qxb6604078aF3
import Derived.Test.Qxb6604078aW5
namespace Go.Proofs.Qxb6604078a
open Go.RowKit

theorem info92 : (Try.prog.info? 92).map (fun i => (i.zero, i.size, i.bytes)) = some (some (.agg #[.string ⟨#[]⟩, .string ⟨#[]⟩]), 2, 32) := by kernel_rfl

set_option maxHeartbeats 2000000 in
theorem deals_any (a : Option Addr) (n c : Nat) (S : Nat → TwoV) (w : World) (h : Twos w a n c S) :
    Calls Try.prog 30 #[.slice a n c] w fun e w' => RetSl w n e w' := by
  have c1 := h.le
  have c2 := h.cap
  have ha := h.here
  have hn := h.nil
  clear h
  have heq := fun w a n c => Lib.run_eql_slice_nil (P := Try.prog) w 22 71 a n c 0 0 Try.underlying22
  cases a with
  | none =>
    obtain ⟨rfl, rfl⟩ := hn rfl
    clear hn ha
    go_enter Try.func30, Try.ntmps30
    go_wp2
    go_ret
    exact ⟨_, _, rfl, Below.refl _ _⟩
  | some x =>
    clear hn
    have hmk := make_eq (P := Try.prog) 39 92 (.agg #[.string ⟨#[]⟩, .string ⟨#[]⟩]) 2 32 Try.underlying39 info92 n (by omega) (by omega)
    go_enter Try.func30, Try.ntmps30
    go_wp2
    go_loopw [4] (fun i wr => ∃ (k : Nat) (f : Nat → Value), k ≤ n ∧ i = .int .i64 k ∧ wr.rowIs w.heap.size 92 (n * 2) f ∧ Below w.heap.size w wr) (fun i _ => n - (intOf i).toNat)
    case atStart => exact ⟨0, _, Nat.zero_le _, rfl, made_row w _ (n * 2) 92, (Below.refl _ _).alloc (Nat.le_refl _) _⟩
    case round =>
      obtain ⟨k, f, hk, rfl, hrow, hb⟩ := hrel
      by_cases hlt : k < n
      · obtain ⟨b, o, hao, hbl, hat⟩ := ha (by omega)
        have hck := (hat k hlt).later hbl hb
        simp only [Option.some.injEq] at hao
        subst hao
        obtain ⟨x0, x1, -, -⟩ := hck
        have z0 := hrow.cell (i := k * 2) (by omega)
        have z1 := hrow.frozen (k * 2)
        have z2 := hrow.cell (i := k * 2 + 1) (by omega)
        have z3 := hrow.frozen (k * 2 + 1)
        have hne : ¬ w.heap.size = b := by omega
        have hne' : ¬ b = w.heap.size := by omega
        have hlt' : (k : Int) < (n : Int) := by omega
        have hk0 : (0 : Int) ≤ (k : Int) := by omega
        clear hat ha hmk
        go_wp2_with fail
        go_region_held3 (fun w' => w'.cell? ⟨b, o + k * 2, none⟩ = some (.string (S k).x) ∧ w'.cell? ⟨b, o + k * 2 + 1, none⟩ = some (.string (S k).y)) (go_keep) (fail)
        go_wp2
        go_roundw
        case rel => exact ⟨k + 1, _, by omega, by go_num, ((hrow.set (k * 2) _).set (k * 2 + 1) _).drew, ((hb.setCell (by simp) _).setCell (by simp) _).drew⟩
        case measure => simp [intOf]; omega
      · obtain rfl : k = n := by omega
        clear hmk ha
        go_wp2
        go_ret
        exact ⟨_, _, rfl, hb⟩

def RetP (w : World) (e : Ending) (w' : World) : Prop := ∃ p, e = .returned (.pointer p) ∧ Below w.heap.size w w'

theorem one_cells {B b : Nat} {w w' : World} (h : Below B w w') (h1 : b < B) : ∀ j, w'.cell? ⟨b, j, none⟩ = w.cell? ⟨b, j, none⟩ := fun j => h.cell (p := ⟨b, j, none⟩) h1

set_option maxHeartbeats 2000000 in
theorem head_any (p : Option Addr) (w : World) (h : HC w p) :
    Calls Try.prog 40 #[.pointer p] w fun e w' => RetP w e w' := by
  rcases h with rfl | ⟨b, o, rfl, hl, n, f, d, c0, c1, c2, s0, s1⟩
  · go_enter Try.func40, Try.ntmps40
    go_wp2
    go_ret
    exact ⟨_, rfl, Below.refl _ _⟩
  · have hne : ¬ w.heap.size = b := by omega
    have hne' : ¬ b = w.heap.size := by omega
    go_enter Try.func40, Try.ntmps40
    go_wp2_with fail
    go_region_held3 (fun w' => w'.cell? ⟨b, o, none⟩ = some (.int .i64 n) ∧ w'.cell? ⟨b, o + 1, none⟩ = some (.string f) ∧ w'.cell? ⟨b, o + 2, none⟩ = some (.string d)) (go_keep) (fail)
    go_wp2
    go_ret
    exact ⟨_, rfl, (Below.refl _ _).drew.alloc (by simp) _⟩

set_option maxHeartbeats 4000000 in
theorem board_any (p : Option Addr) (w : World) (h : BV w p) :
    Calls Try.prog 31 #[.pointer p] w fun e w' => RetP w e w' := by
  rcases h with rfl | ⟨b, o, rfl, hl, pq, pa, pd, c0, c1, c2, h0, h1, h2⟩
  · go_enter Try.func31, Try.ntmps31
    go_wp2
    go_ret
    exact ⟨_, rfl, Below.refl _ _⟩
  · have D0 : Below w.heap.size w w.drew := (Below.refl _ _).drew
    go_enter Try.func31, Try.ntmps31
    go_wp2_with fail
    go_region_held3 (fun w' => w'.cell? ⟨b, o, none⟩ = some (.pointer pq) ∧ w'.cell? ⟨b, o + 1, none⟩ = some (.pointer pa) ∧ w'.cell? ⟨b, o + 2, none⟩ = some (.pointer pd)) (go_keep)
      (first | (go_at_call_of 40 (Value.pointer pq); refine (head_any _ _ (h0.later D0)).mono ?_; rintro e w1 ⟨p1, rfl, hb1⟩; have m1 := one_cells hb1 hl; have D1 := D0.trans (hb1.mono D0.size))
             | (go_at_call_of 40 (Value.pointer pa); refine (head_any _ _ (h1.later D1)).mono ?_; rintro e w2 ⟨p2, rfl, hb2⟩; have m2 := one_cells hb2 (Nat.lt_of_lt_of_le hl D1.size); have D2 := D1.trans (hb2.mono D1.size))
             | (go_at_call_of 40 (Value.pointer pd); refine (head_any _ _ (h2.later D2)).mono ?_; rintro e w3 ⟨p3, rfl, hb3⟩; have m3 := one_cells hb3 (Nat.lt_of_lt_of_le hl D2.size); have D3 := D2.trans (hb3.mono D2.size)))
    go_wp2
    go_ret
    exact ⟨_, rfl, D3.alloc D3.size _⟩

def RetProf (w : World) (rn : Nat) (R : Nat → RouteV) (e : Ending) (w' : World) : Prop :=
  ∃ p a c, e = .returned (.pointer (some ⟨p, 0, none⟩)) ∧ w'.cell? ⟨p, 3, none⟩ = some (.slice a rn c) ∧ PRts w.heap.size w' a rn R ∧ Below w.heap.size w w'

theorem PRts.mono {B B' : Nat} {w : World} {a : Option Addr} {n : Nat} {R : Nat → RouteV} (h : PRts B w a n R) (hB : B' ≤ B) : PRts B' w a n R := by
  refine ⟨h.max, h.nil, fun hn => ?_⟩
  obtain ⟨b, o, e, hl, hc⟩ := h.here hn
  exact ⟨b, o, e, ⟨Nat.le_trans hB hl.1, hl.2⟩, hc⟩

set_option maxHeartbeats 2000000 in
theorem profile_any (nm ti : ByteArray) (da : Option Addr) (dn dc : Nat) (D : Nat → TwoV) (ra : Option Addr) (rn rc : Nat) (R : Nat → RouteV) (bv : Option Addr) (w : World) (hD : Twos w da dn dc D) (hR : Rts w ra rn rc R) (hbv : BV w bv) :
    Calls Try.prog 10 #[.string nm, .string ti, .slice da dn dc, .slice ra rn rc, .pointer bv] w fun e w' => RetProf w rn R e w' := by
  go_enter Try.func10, Try.ntmps10
  go_wp2_with fail
  refine (deals_any _ _ _ D _ hD).mono ?_
  rintro e w1 ⟨da', dc', rfl, hb1⟩
  go_wp2_with fail
  refine (routes_any _ _ _ R _ (hR.later hb1)).mono ?_
  rintro e w2 ⟨ra', rc', rfl, hP, hb2⟩
  have B2 := hb1.trans (hb2.mono hb1.size)
  go_wp2_with fail
  refine (board_any _ _ (hbv.later B2)).mono ?_
  rintro e w3 ⟨p3, rfl, hb3⟩
  have B3 := B2.trans (hb3.mono B2.size)
  have hP3 := (hP.same (.of_below hb3)).mono hb1.size
  clear hP hbv hR hD hb3 hb2
  go_wp2
  go_ret
  exact ⟨_, ra', rc', rfl, cell_new w3 _ 43 rfl, hP3.same (.of_below ((Below.refl _ _).alloc (Nat.le_refl _) _)), B3.alloc B3.size _⟩
end Go.Proofs.Qxb6604078a
