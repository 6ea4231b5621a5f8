import Derived.Test.Qxb6604078aF
import Derived.LaidEql
namespace Go.Proofs.Qxb6604078a
open Go.RowKit

/-! ### Strings and pointers compared -/

theorem bytes_ext {a b : ByteArray} (h : a.toList = b.toList) : a = b := by
  rw [ByteArray.toList_eq, ByteArray.toList_eq] at h
  cases a with
  | mk a => cases b with
    | mk b =>
      have : a = b := Array.toList_inj.1 h
      rw [this]

theorem beq_no {a b : ByteArray} (h : ¬ a = b) : (a.toList == b.toList) = false := by
  rw [beq_eq_false_iff_ne]
  exact fun e => h (bytes_ext e)

theorem beq_yes {a b : ByteArray} (h : a = b) : (a.toList == b.toList) = true := by
  rw [h]
  exact beq_self_eq_true _

theorem run_eql_ptr {P : Program} {t te : TypeId} {j : TypeInfo} (hp : P.underlying t = some (.pointer te)) (hte : P.info? te = some j) (hsz : j.size ≠ 0) (b o1 o2 : Nat) (w : World) :
    (binOp .eql t (.pointer (some ⟨b, o1, none⟩)) (.pointer (some ⟨b, o2, none⟩))).run P w = .ok (.bool (decide (o1 = o2))) w := by
  have h : ∀ d : Nat, (Op.equalIn (d + 1) t (.pointer (some ⟨b, o1, none⟩)) (.pointer (some ⟨b, o2, none⟩))).run P w = .ok (decide (o1 = o2)) w := fun d => by
    by_cases e : o1 = o2
    · subst e
      simp [Op.equalIn, run_underlying hp, typeInfo, sizeOf, run_sameAddr_same, hte]
    · simp [Op.equalIn, run_underlying hp, typeInfo, sizeOf, hte, hsz, sameAddr, e]
  simp only [binOp]
  simp [Op.equal, Op.maxDepth, h 9999]

/-! ### slices.Index, slices.Contains at the kinds -/

/-- The string stands among the first n. -/
def Among (n : Nat) (S : Nat → ByteArray) (v : ByteArray) : Prop := ∃ j, j < n ∧ S j = v

set_option maxHeartbeats 400000 in
theorem indexK_no {B : Nat} (a : Option Addr) (n c : Nat) (S : Nat → ByteArray) (v : ByteArray) (w : World) (h : Strs B w a n c S) (hv : ¬ Among n S v) :
    Calls Try.prog 48 #[.slice a n c, .string v] w fun e w' => e = .returned (.int .i64 (-1)) ∧ w = w' := by
  have hc := h.le
  have hm := h.cap
  have ha := h.here
  clear h
  go_enter Try.func48, Try.ntmps48
  go_wp2
  go_loop [8] (fun i => ∃ (k : Nat), k ≤ n ∧ i = .int .i64 k) (fun i => n - (intOf i).toNat)
  case atStart => exact ⟨0, Nat.zero_le _, rfl⟩
  case round =>
    obtain ⟨k, hk, rfl⟩ := hrel
    by_cases hlt : k < n
    · obtain ⟨b, o, hao, _, hcell⟩ := ha (by omega)
      have hck := hcell k hlt
      have hne : (v.toList == (S k).toList) = false := beq_no (fun e => hv ⟨k, hlt, e.symm⟩)
      subst hao
      clear hcell ha hv
      go_wp2
      go_round
      case rel => exact ⟨k + 1, by omega, by go_num⟩
      case measure => simp [intOf]; omega
    · go_wp2
      go_ret
      exact ⟨rfl, rfl⟩

set_option maxHeartbeats 400000 in
theorem indexK_yes {B : Nat} (a : Option Addr) (n c : Nat) (S : Nat → ByteArray) (v : ByteArray) (w : World) (h : Strs B w a n c S) (hv : Among n S v) :
    Calls Try.prog 48 #[.slice a n c, .string v] w fun e w' => (∃ r : Nat, r < n ∧ e = .returned (.int .i64 (r : Int))) ∧ w = w' := by
  have hc := h.le
  have hm := h.cap
  have ha := h.here
  clear h
  go_enter Try.func48, Try.ntmps48
  go_wp2
  go_loop [8] (fun i => ∃ (k : Nat), k ≤ n ∧ i = .int .i64 k ∧ ∀ j, j < k → ¬ S j = v) (fun i => n - (intOf i).toNat)
  case atStart => exact ⟨0, Nat.zero_le _, rfl, fun j hj => absurd hj (Nat.not_lt_zero _)⟩
  case round =>
    obtain ⟨k, hk, rfl, hno⟩ := hrel
    have HN : Hid (∀ j, j < k → ¬ S j = v) := hno
    clear hno
    by_cases hlt : k < n
    · obtain ⟨b, o, hao, _, hcell⟩ := ha (by omega)
      have hck := hcell k hlt
      subst hao
      clear hcell ha
      by_cases hs : S k = v
      · have hne : (v.toList == (S k).toList) = true := beq_yes hs.symm
        clear hs hv
        go_wp2
        go_ret
        exact ⟨⟨k, hlt, rfl⟩, rfl⟩
      · have hne : (v.toList == (S k).toList) = false := beq_no (fun e => hs e.symm)
        have HS : Hid (¬ S k = v) := hs
        clear hs hv
        go_wp2
        go_round
        case rel => exact ⟨k + 1, by omega, by go_num, fun j hj => by
          by_cases e : j = k
          · rw [e]; exact HS.out
          · exact HN.out j (by omega)⟩
        case measure => simp [intOf]; omega
    · exfalso
      obtain ⟨j, hj, e⟩ := hv
      exact HN.out j (by omega) e

set_option maxHeartbeats 400000 in
theorem containsK_no {B : Nat} (a : Option Addr) (n c : Nat) (S : Nat → ByteArray) (v : ByteArray) (w : World) (h : Strs B w a n c S) (hv : ¬ Among n S v) :
    Calls Try.prog 42 #[.slice a n c, .string v] w fun e w' => e = .returned (.bool false) ∧ w = w' := by
  go_enter Try.func42, Try.ntmps42
  go_wp2_with (first | (go_at_call 48; refine (indexK_no _ _ _ S _ _ h hv).mono ?_; rintro e w' ⟨rfl, rfl⟩))
  go_ret
  exact ⟨rfl, rfl⟩

set_option maxHeartbeats 400000 in
theorem containsK_yes {B : Nat} (a : Option Addr) (n c : Nat) (S : Nat → ByteArray) (v : ByteArray) (w : World) (h : Strs B w a n c S) (hv : Among n S v) :
    Calls Try.prog 42 #[.slice a n c, .string v] w fun e w' => e = .returned (.bool true) ∧ w = w' := by
  go_enter Try.func42, Try.ntmps42
  go_wp2_with fail
  refine (indexK_yes _ _ _ S _ _ h hv).mono ?_
  rintro e w' ⟨⟨r, hr, rfl⟩, rfl⟩
  have h0 : (0 : Int) ≤ (r : Int) := by omega
  go_wp2
  go_ret
  exact ⟨rfl, rfl⟩

set_option maxHeartbeats 400000 in
theorem listedK_yes {B : Nat} (a : Option Addr) (n c : Nat) (S : Nat → ByteArray) (v : ByteArray) (w : World) (h : Strs B w a n c S) (hv : Among n S v) :
    Calls Try.prog 26 #[.slice a n c, .string v] w fun e w' => e = .returned (.bool true) ∧ w = w' := by
  have hc := h.le
  have hm := h.cap
  have ha := h.here
  clear h
  go_enter Try.func26, Try.ntmps26
  go_wp2
  go_loop [5] (fun i => ∃ (k : Nat), k ≤ n ∧ i = .int .i64 k ∧ ∀ j, j < k → ¬ S j = v) (fun i => n - (intOf i).toNat)
  case atStart => exact ⟨0, Nat.zero_le _, rfl, fun j hj => absurd hj (Nat.not_lt_zero _)⟩
  case round =>
    obtain ⟨k, hk, rfl, hno⟩ := hrel
    have HN : Hid (∀ j, j < k → ¬ S j = v) := hno
    clear hno
    by_cases hlt : k < n
    · obtain ⟨b, o, hao, _, hcell⟩ := ha (by omega)
      have hck := hcell k hlt
      subst hao
      clear hcell ha
      by_cases hs : S k = v
      · have hne : ((S k).toList == v.toList) = true := beq_yes hs
        clear hs hv
        go_wp2
        go_ret
        exact ⟨rfl, rfl⟩
      · have hne : ((S k).toList == v.toList) = false := beq_no hs
        have HS : Hid (¬ S k = v) := hs
        clear hs hv
        go_wp2
        go_round
        case rel => exact ⟨k + 1, by omega, by go_num, fun j hj => by
          by_cases e : j = k
          · rw [e]; exact HS.out
          · exact HN.out j (by omega)⟩
        case measure => simp [intOf]; omega
    · exfalso
      obtain ⟨j, hj, e⟩ := hv
      exact HN.out j (by omega) e

/-! ### (*Route).threshold -/

/-- What it comes back with: nil where no threshold lists the kind; else the first that does. -/
def RetFirst (a : Option Addr) (n : Nat) (T : Nat → ThrV) (v : ByteArray) (e : Ending) : Prop :=
  ((∀ i, i < n → ¬ Among (T i).kn (T i).K v) ∧ e = .returned (.pointer none)) ∨
  ∃ b o i, a = some ⟨b, o, none⟩ ∧ i < n ∧ Among (T i).kn (T i).K v ∧ (∀ j, j < i → ¬ Among (T j).kn (T j).K v) ∧ e = .returned (.pointer (some ⟨b, o + i * 2, none⟩))

set_option maxHeartbeats 1000000 in
theorem thresholdM_any {B : Nat} (r : Nat) (a : Option Addr) (n c : Nat) (T : Nat → ThrV) (v : ByteArray) (w : World) (hr : w.cell? ⟨r, 3, none⟩ = some (.slice a n c)) (h : PThrs B w a n T) :
    Calls Try.prog 36 #[.pointer (some ⟨r, 0, none⟩), .string v] w fun e w' => RetFirst a n T v e ∧ w = w' := by
  have hm := h.max
  have ha := h.here
  clear h
  go_enter Try.func36, Try.ntmps36
  go_wp2
  go_loop [11] (fun i => ∃ (k : Nat), k ≤ n ∧ i = .int .i64 k ∧ ∀ j, j < k → ¬ Among (T j).kn (T j).K v) (fun i => n - (intOf i).toNat)
  case atStart => exact ⟨0, Nat.zero_le _, rfl, fun j hj => absurd hj (Nat.not_lt_zero _)⟩
  case round =>
    obtain ⟨k, hk, rfl, hno⟩ := hrel
    have HN : Hid (∀ j, j < k → ¬ Among (T j).kn (T j).K v) := hno
    clear hno
    by_cases hlt : k < n
    · obtain ⟨b, o, hao, _, hcell⟩ := ha (by omega)
      have hck := hcell k hlt
      subst hao
      clear hcell ha
      obtain ⟨ka, kc, aa, ac, c0, c1, s0, s1⟩ := hck
      clear c1 s1
      by_cases hs : Among (T k).kn (T k).K v
      · go_wp2_with (first | (go_at_call 42; refine (containsK_yes _ _ _ _ _ _ s0 hs).mono ?_; rintro e w' ⟨rfl, rfl⟩))
        go_ret
        exact ⟨.inr ⟨b, o, k, rfl, hlt, hs, HN.out, rfl⟩, rfl⟩
      · go_wp2_with (first | (go_at_call 42; refine (containsK_no _ _ _ _ _ _ s0 hs).mono ?_; rintro e w' ⟨rfl, rfl⟩))
        go_round
        case rel => exact ⟨k + 1, by omega, by go_num, fun j hj => by
          by_cases e : j = k
          · rw [e]; exact hs
          · exact HN.out j (by omega)⟩
        case measure => simp [intOf]; omega
    · go_wp2
      go_ret
      exact ⟨.inl ⟨fun i hi => HN.out i (by omega), rfl⟩, rfl⟩

set_option maxHeartbeats 400000 in
theorem zzThreshold_any {B : Nat} (r : Nat) (a : Option Addr) (n c : Nat) (T : Nat → ThrV) (v : ByteArray) (w : World) (hr : w.cell? ⟨r, 3, none⟩ = some (.slice a n c)) (h : PThrs B w a n T) :
    Calls Try.prog 20 #[.pointer (some ⟨r, 0, none⟩), .string v] w fun e w' => RetFirst a n T v e ∧ w = w' := by
  go_enter Try.func20, Try.ntmps20
  go_wp2_with fail
  refine (thresholdM_any r a n c T v _ hr h).mono ?_
  rintro e w' ⟨hf, rfl⟩
  rcases hf with ⟨h1, rfl⟩ | ⟨b, o, i, h1, h2, h3, h4, rfl⟩
  · go_wp2
    go_ret
    exact ⟨.inl ⟨h1, rfl⟩, rfl⟩
  · have H : Hid (RetFirst a n T v (.returned (.pointer (some ⟨b, o + i * 2, none⟩)))) := .inr ⟨b, o, i, h1, h2, h3, h4, rfl⟩
    clear h1 h2 h3 h4
    go_wp2
    go_ret
    exact ⟨H.out, rfl⟩
end Go.Proofs.Qxb6604078a
