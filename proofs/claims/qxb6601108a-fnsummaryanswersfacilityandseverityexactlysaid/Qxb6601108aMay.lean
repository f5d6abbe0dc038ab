/-
  Contracts of MayMatch (27) at each kind of query, and of zzQueryInDomain (23); the masks as bits.
-/
import Derived.Test.Qxb6601108aSmall
import Derived.Lib.QuietBelow
import Derived.Laws.BitsAllLaws
namespace Go.Proofs.Qxb6601108a
open Go.RowKit
set_option linter.unusedVariables false

def arr (k : IntKind) (l : List Int) : Array Value := (l.map (Value.int k)).toArray

theorem arr_cell (k : IntKind) (l : List Int) (i : Nat) (h : i < l.length) : (arr k l)[i]? = some (.int k (l.getD i 0)) := by
  simp [arr, h]

theorem fin_bit : ∀ n : Fin 256, ∀ j : Fin 8, ((n.val &&& 2 ^ j.val) != 0) = (n.val / 2 ^ j.val % 2 == 1) := by decide +kernel
theorem fin_any : ∀ n : Fin 256, ∀ j : Fin 8, ((n.val &&& (2 ^ (j.val + 1) - 1)) != 0) = (List.range (j.val + 1)).any (fun j => n.val / 2 ^ j % 2 == 1) := by decide +kernel

theorem bitB_nat (n j : Nat) : bitB (n : Int) j = (n / 2 ^ j % 2 == 1) := by
  unfold bitB
  have e : ((n : Int) / 2 ^ j % 2) = ((n / 2 ^ j % 2 : Nat) : Int) := by simp
  rw [e]
  rw [Bool.eq_iff_iff]; simp; omega

theorem i64_and_nat (a b : Nat) (ha : a < 65536) (hb : b < 65536) : bits .and .i64 (a : Int) (b : Int) = ((a &&& b : Nat) : Int) := by
  have ea : (BitVec.ofInt 64 (a : Int)).toNat = a := by rw [BitVec.ofInt_natCast, BitVec.toNat_ofNat]; exact Nat.mod_eq_of_lt (by omega)
  have eb : (BitVec.ofInt 64 (b : Int)).toNat = b := by rw [BitVec.ofInt_natCast, BitVec.toNat_ofNat]; exact Nat.mod_eq_of_lt (by omega)
  have hx : a &&& b < 2 ^ 16 := Nat.and_lt_two_pow _ (by omega)
  show IntKind.i64.wrap ((BitVec.ofInt 64 (a : Int) &&& BitVec.ofInt 64 (b : Int)).toNat : Int) = _
  rw [BitVec.toNat_and, ea, eb, IntKind.wrap_i64]
  omega

/-- is one of the bits below k set? -/
def anyTo (x : Int) (k : Nat) : Bool := (List.range k).any (bitB x)

/-- the masks of MayMatch, as bits -/
theorem mask_bit (x : Int) (j : Nat) (h0 : 0 ≤ x) (h1 : x ≤ 255) (hj : j ≤ 7) : (bits .and .u8 x (2 ^ j % 256) != 0) = bitB x j := by
  obtain ⟨n, rfl⟩ := Int.eq_ofNat_of_zero_le h0
  have hle : (2 : Nat) ^ j ≤ 2 ^ 7 := Nat.pow_le_pow_right (by omega) hj
  have hp : (2 : Int) ^ j % 256 = ((2 ^ j : Nat) : Int) := by
    have h2 : ((2 ^ j : Nat) : Int) ≤ 128 := by omega
    rw [Int.emod_eq_of_lt (Int.pow_nonneg (by omega)) (by simp at h2; omega)]; simp
  rw [hp, u8_and_nat n (2 ^ j) (by omega) (by omega), bitB_nat, ← fin_bit ⟨n, by omega⟩ ⟨j, by omega⟩]
  rw [Bool.eq_iff_iff]; simp

theorem mask_any (x : Int) (k : Nat) (h0 : 0 ≤ x) (h1 : x ≤ 255) (hk : k ≤ 7) : (bits .and .i64 x (2 ^ (k + 1) - 1) != 0) = anyTo x (k + 1) := by
  obtain ⟨n, rfl⟩ := Int.eq_ofNat_of_zero_le h0
  have hle : (2 : Nat) ^ (k + 1) ≤ 2 ^ 8 := Nat.pow_le_pow_right (by omega) (by omega)
  have hpos : 0 < (2 : Nat) ^ (k + 1) := Nat.pow_pos (by omega)
  have hp : (2 : Int) ^ (k + 1) - 1 = ((2 ^ (k + 1) - 1 : Nat) : Int) := by
    rw [Int.natCast_sub (by omega)]; simp
  have e : anyTo (n : Int) (k + 1) = (List.range (k + 1)).any (fun j => n / 2 ^ j % 2 == 1) := by
    unfold anyTo
    congr 1
    funext j
    exact bitB_nat n j
  rw [hp, i64_and_nat n _ (by omega) (by omega), e, ← fin_any ⟨n, by omega⟩ ⟨k, by omega⟩]
  generalize n &&& (2 ^ (k + 1) - 1) = m
  rw [Bool.eq_iff_iff]; simp

set_option maxHeartbeats 400000 in
theorem may_fac (n : Int) (s : ByteArray) (p0 p1 p2 p3 : Int) (S : List Int) (w : World) (hS : S.length = 68) (hb : ∀ i, 0 ≤ S.getD i 0 ∧ S.getD i 0 ≤ 255) (h0 : 0 ≤ n) (h1 : n ≤ 23) :
    Calls Try.prog 27 #[.agg #[.int .i64 2, .string s, .int .i64 n, .int .u16 p0, .int .u16 p1, .int .u16 p2, .int .u16 p3], .agg (arr .u8 S)] w fun e w' => e = .returned (.bool (bitB (S.getD (n / 8).toNat 0) (n % 8).toNat)) ∧ Below w.heap.size w w' := by
  rw [← mask_bit _ _ (hb _).1 (hb _).2 (by omega)]
  clear hb
  go_enter Try.func27, Try.ntmps27
  go_wp2
  have hq : n / 8 ≤ 2 := by omega
  have hq0 : 0 ≤ n / 8 := by omega
  have hr : n % 8 ≤ 7 := by omega
  have hr0 : 0 ≤ n % 8 := by omega
  have hc : (arr .u8 S)[(n / 8).toNat]? = some (.int .u8 (S.getD (n / 8).toNat 0)) := arr_cell _ _ _ (by omega)
  go_quiet (fail)
  go_wp2
  go_ret
  exact ⟨by simp, below_drewN (((Below.refl _ _).alloc (Nat.le_refl _) _).alloc (by simp) _) _⟩

set_option maxHeartbeats 400000 in
theorem may_sev (k : Nat) (s : ByteArray) (p0 p1 p2 p3 : Int) (S : List Int) (w : World) (hS : S.length = 68) (hb : ∀ i, 0 ≤ S.getD i 0 ∧ S.getD i 0 ≤ 255) (h1 : k ≤ 7) :
    Calls Try.prog 27 #[.agg #[.int .i64 3, .string s, .int .i64 k, .int .u16 p0, .int .u16 p1, .int .u16 p2, .int .u16 p3], .agg (arr .u8 S)] w fun e w' => e = .returned (.bool (anyTo (S.getD 3 0) (k + 1))) ∧ Below w.heap.size w w' := by
  rw [← mask_any _ _ (hb _).1 (hb _).2 h1]
  have hc : (arr .u8 S)[3]? = some (.int .u8 (S.getD 3 0)) := arr_cell _ _ _ (by omega)
  have h30 := (hb 3).1
  have h31 := (hb 3).2
  clear hb hS
  generalize S.getD 3 0 = x at *
  have g1 : (2 : Int) ^ (k + 1) ≤ 256 := by
    have hle : (2 : Nat) ^ (k + 1) ≤ 2 ^ 8 := Nat.pow_le_pow_right (by omega) (by omega)
    have h2 : ((2 ^ (k + 1) : Nat) : Int) ≤ 256 := by omega
    simpa using h2
  have g0 : (0 : Int) < (2 : Int) ^ (k + 1) := Int.pow_pos (by omega)
  go_enter Try.func27, Try.ntmps27
  go_wp2
  go_ret
  exact ⟨rfl, ((Below.refl _ _).alloc (Nat.le_refl _) _).alloc (by simp) _⟩

/-- is the probe's bit of the filter set? -/
def prB (S : List Int) (p : Int) : Bool := bitB (S.getD (4 + p / 8).toNat 0) (p % 8).toNat

theorem prB_mask (S : List Int) (p : Int) (hb : ∀ i, 0 ≤ S.getD i 0 ∧ S.getD i 0 ≤ 255) (h0 : 0 ≤ p) : prB S p = (bits .and .u8 (S.getD (4 + p / 8).toNat 0) (2 ^ (p % 8).toNat % 256) != 0) := by
  unfold prB
  rw [mask_bit _ _ (hb _).1 (hb _).2 (by omega)]

/-- the first k probes -/
def prTo (S : List Int) (ps : List Int) (k : Nat) : Bool := (ps.take k).all (prB S)

theorem ix0 (p0 p1 p2 p3 : Int) (w : World) : (Instr.index 37 (.agg #[.int .u16 p0, .int .u16 p1, .int .u16 p2, .int .u16 p3]) (.int .i64 0)).run Try.prog w = .ok (.int .u16 p0) w := by kernel_rfl
theorem ix1 (p0 p1 p2 p3 : Int) (w : World) : (Instr.index 37 (.agg #[.int .u16 p0, .int .u16 p1, .int .u16 p2, .int .u16 p3]) (.int .i64 1)).run Try.prog w = .ok (.int .u16 p1) w := by kernel_rfl
theorem ix2 (p0 p1 p2 p3 : Int) (w : World) : (Instr.index 37 (.agg #[.int .u16 p0, .int .u16 p1, .int .u16 p2, .int .u16 p3]) (.int .i64 2)).run Try.prog w = .ok (.int .u16 p2) w := by kernel_rfl
theorem ix3 (p0 p1 p2 p3 : Int) (w : World) : (Instr.index 37 (.agg #[.int .u16 p0, .int .u16 p1, .int .u16 p2, .int .u16 p3]) (.int .i64 3)).run Try.prog w = .ok (.int .u16 p3) w := by kernel_rfl

/-- the probe at place k, named -/
theorem probe_at (p0 p1 p2 p3 : Int) (S : List Int) (k : Nat) (hk : k < 4) (a0 : 0 ≤ p0) (b0 : p0 ≤ 511) (a1 : 0 ≤ p1) (b1 : p1 ≤ 511) (a2 : 0 ≤ p2) (b2 : p2 ≤ 511) (a3 : 0 ≤ p3) (b3 : p3 ≤ 511) :
    ∃ q : Int, 0 ≤ q ∧ q ≤ 511 ∧ (∀ w, (Instr.index 37 (.agg #[.int .u16 p0, .int .u16 p1, .int .u16 p2, .int .u16 p3]) (.int .i64 k)).run Try.prog w = .ok (.int .u16 q) w) ∧ prTo S [p0, p1, p2, p3] (k + 1) = (prTo S [p0, p1, p2, p3] k && prB S q) ∧ (prB S q = false → prTo S [p0, p1, p2, p3] 4 = false) := by
  have : k = 0 ∨ k = 1 ∨ k = 2 ∨ k = 3 := by omega
  rcases this with rfl | rfl | rfl | rfl
  · exact ⟨p0, a0, b0, ix0 _ _ _ _, by simp [prTo], by simp [prTo]; intro h1 h2; simp [h1] at h2⟩
  · exact ⟨p1, a1, b1, ix1 _ _ _ _, by simp [prTo], by simp [prTo]; intro h1 _ h2; simp [h1] at h2⟩
  · exact ⟨p2, a2, b2, ix2 _ _ _ _, by simp [prTo, Bool.and_assoc], by simp [prTo]; intro h1 _ _ h2; simp [h1] at h2⟩
  · exact ⟨p3, a3, b3, ix3 _ _ _ _, by simp [prTo, Bool.and_assoc], by simp [prTo]; intro h1 _ _ _; exact h1⟩

set_option maxHeartbeats 400000 in
theorem may_probes (kd n : Int) (s : ByteArray) (p0 p1 p2 p3 : Int) (S : List Int) (w : World) (hS : S.length = 68) (hb : ∀ i, 0 ≤ S.getD i 0 ∧ S.getD i 0 ≤ 255) (h2 : (kd == 2) = false) (h3 : (kd == 3) = false)
    (a0 : 0 ≤ p0) (b0 : p0 ≤ 511) (a1 : 0 ≤ p1) (b1 : p1 ≤ 511) (a2 : 0 ≤ p2) (b2 : p2 ≤ 511) (a3 : 0 ≤ p3) (b3 : p3 ≤ 511) :
    Calls Try.prog 27 #[.agg #[.int .i64 kd, .string s, .int .i64 n, .int .u16 p0, .int .u16 p1, .int .u16 p2, .int .u16 p3], .agg (arr .u8 S)] w fun e w' => e = .returned (.bool (prTo S [p0, p1, p2, p3] 4)) ∧ Below w.heap.size w w' := by
  have hc : ∀ i : Nat, i < 68 → (arr .u8 S)[i]? = some (.int .u8 (S.getD i 0)) := fun i hi => arr_cell _ _ _ (by omega)
  have P := fun k hk => probe_at p0 p1 p2 p3 S k hk a0 b0 a1 b1 a2 b2 a3 b3
  have HP : Hid (∀ k : Nat, k < 4 → ∃ q : Int, 0 ≤ q ∧ q ≤ 511 ∧ (∀ w, (Instr.index 37 (.agg #[.int .u16 p0, .int .u16 p1, .int .u16 p2, .int .u16 p3]) (.int .i64 k)).run Try.prog w = .ok (.int .u16 q) w) ∧ prTo S [p0, p1, p2, p3] (k + 1) = (prTo S [p0, p1, p2, p3] k && prB S q) ∧ (prB S q = false → prTo S [p0, p1, p2, p3] 4 = false)) := P
  have HC : Hid (∀ i : Nat, i < 68 → (arr .u8 S)[i]? = some (.int .u8 (S.getD i 0))) := hc
  have HB : Hid (∀ i, 0 ≤ S.getD i 0 ∧ S.getD i 0 ≤ 255) := hb
  clear P hc hb hS a0 b0 a1 b1 a2 b2 a3 b3
  go_enter Try.func27, Try.ntmps27
  go_wp2
  go_loop [39] (fun i => ∃ k : Nat, k ≤ 4 ∧ i = .int .i64 k ∧ Hid (prTo S [p0, p1, p2, p3] k = true)) (fun i => 4 - (intOf i).toNat)
  case atStart => exact ⟨0, by omega, rfl, by show prTo _ _ _ = true; simp [prTo]⟩
  case round =>
    obtain ⟨k, hk, rfl, ht⟩ := hrel
    by_cases hlt : k < 4
    · obtain ⟨q, q0, q1, hix, hs, hf⟩ := HP.out k hlt
      have hm := prB_mask S q HB.out q0
      have hcell := HC.out (4 + q / 8).toNat (by omega)
      have g0 : 0 ≤ q / 8 := by omega
      have g1 : q / 8 ≤ 63 := by omega
      have g2 : 0 ≤ q % 8 := by omega
      have g3 : q % 8 ≤ 7 := by omega
      have u1 : IntKind.u16.wrap (q.tdiv 8) = q / 8 := by rw [IntKind.wrap_u16, Int.tdiv_eq_ediv_of_nonneg q0]; omega
      have u2 : IntKind.u16.wrap (4 + q / 8) = 4 + q / 8 := by rw [IntKind.wrap_u16]; omega
      have u3 : IntKind.u16.wrap (q.tmod 8) = q % 8 := by rw [IntKind.wrap_u16, Int.tmod_eq_emod_of_nonneg q0]; omega
      generalize S.getD (4 + q / 8).toNat 0 = x at *
      cases hv : prB S q
      · have hz : (bits .and .u8 x (2 ^ (q % 8).toNat % 256) == 0) = true := by rw [hv] at hm; simpa using hm.symm
        have HF : Hid (prTo S [p0, p1, p2, p3] 4 = false) := hf hv
        clear hm hv hs hf
        go_wp2
        go_ret
        exact ⟨by rw [HF.out]; rfl, ((Below.refl _ _).alloc (Nat.le_refl _) _).alloc (by simp) _⟩
      · have hz : (bits .and .u8 x (2 ^ (q % 8).toNat % 256) == 0) = false := by rw [hv] at hm; simpa using hm.symm
        have HS : Hid (prTo S [p0, p1, p2, p3] (k + 1) = true) := by show prTo _ _ _ = true; rw [hs, ht.out, hv]; rfl
        clear hm hv hs hf
        go_wp2
        go_round
        case rel => exact ⟨k + 1, by omega, by go_num, HS⟩
        case measure => simp [intOf]; omega
    · obtain rfl : k = 4 := by omega
      go_wp2
      go_ret
      exact ⟨by rw [ht.out]; rfl, ((Below.refl _ _).alloc (Nat.le_refl _) _).alloc (by simp) _⟩

def domB (kd n p0 p1 p2 p3 : Int) : Bool :=
  if kd = 2 then decide (0 ≤ n ∧ n ≤ 23) else if kd = 3 then decide (0 ≤ n ∧ n ≤ 7) else if kd = 0 ∨ kd = 1 then decide (p0 ≤ 511 ∧ p1 ≤ 511 ∧ p2 ≤ 511 ∧ p3 ≤ 511) else false

/-- are the first k of the four below 512? -/
def smallTo (ps : List Int) (k : Nat) : Bool := (ps.take k).all (fun p => decide (p ≤ 511))

theorem at_four (p0 p1 p2 p3 : Int) (k : Nat) (hk : k < 4) : ∃ q : Int, (#[Value.int .u16 p0, .int .u16 p1, .int .u16 p2, .int .u16 p3])[k]? = some (Value.int .u16 q) ∧ smallTo [p0, p1, p2, p3] (k + 1) = (smallTo [p0, p1, p2, p3] k && decide (q ≤ 511)) ∧ (¬ q ≤ 511 → smallTo [p0, p1, p2, p3] 4 = false) := by
  have : k = 0 ∨ k = 1 ∨ k = 2 ∨ k = 3 := by omega
  rcases this with rfl | rfl | rfl | rfl
  · exact ⟨p0, rfl, by simp [smallTo], by simp [smallTo]; intros; omega⟩
  · exact ⟨p1, rfl, by simp [smallTo], by simp [smallTo]; intros; omega⟩
  · exact ⟨p2, rfl, by simp [smallTo, Bool.and_assoc], by simp [smallTo]; intros; omega⟩
  · exact ⟨p3, rfl, by simp [smallTo, Bool.and_assoc], by simp [smallTo]; intros; omega⟩

set_option maxHeartbeats 400000 in
theorem dom_fac (n p0 p1 p2 p3 : Int) (w : World) :
    Calls Try.prog 23 #[.int .i64 2, .int .i64 n, .agg #[.int .u16 p0, .int .u16 p1, .int .u16 p2, .int .u16 p3]] w fun e w' => e = .returned (.bool (decide (0 ≤ n ∧ n ≤ 23))) ∧ Below w.heap.size w w' := by
  by_cases h0 : 0 ≤ n
  · by_cases h1 : n ≤ 23
    · rw [show decide (0 ≤ n ∧ n ≤ 23) = true by simp; omega]
      go_enter Try.func23, Try.ntmps23
      go_wp2
      go_ret
      exact ⟨rfl, ((Below.refl _ _).alloc (Nat.le_refl _) _)⟩
    · rw [show decide (0 ≤ n ∧ n ≤ 23) = false by simp; omega]
      go_enter Try.func23, Try.ntmps23
      go_wp2
      go_ret
      exact ⟨rfl, ((Below.refl _ _).alloc (Nat.le_refl _) _)⟩
  · rw [show decide (0 ≤ n ∧ n ≤ 23) = false by simp; omega]
    go_enter Try.func23, Try.ntmps23
    go_wp2
    go_ret
    exact ⟨rfl, ((Below.refl _ _).alloc (Nat.le_refl _) _)⟩

set_option maxHeartbeats 400000 in
theorem dom_sev (n p0 p1 p2 p3 : Int) (w : World) :
    Calls Try.prog 23 #[.int .i64 3, .int .i64 n, .agg #[.int .u16 p0, .int .u16 p1, .int .u16 p2, .int .u16 p3]] w fun e w' => e = .returned (.bool (decide (0 ≤ n ∧ n ≤ 7))) ∧ Below w.heap.size w w' := by
  by_cases h0 : 0 ≤ n
  · by_cases h1 : n ≤ 7
    · rw [show decide (0 ≤ n ∧ n ≤ 7) = true by simp; omega]
      go_enter Try.func23, Try.ntmps23
      go_wp2
      go_ret
      exact ⟨rfl, ((Below.refl _ _).alloc (Nat.le_refl _) _)⟩
    · rw [show decide (0 ≤ n ∧ n ≤ 7) = false by simp; omega]
      go_enter Try.func23, Try.ntmps23
      go_wp2
      go_ret
      exact ⟨rfl, ((Below.refl _ _).alloc (Nat.le_refl _) _)⟩
  · rw [show decide (0 ≤ n ∧ n ≤ 7) = false by simp; omega]
    go_enter Try.func23, Try.ntmps23
    go_wp2
    go_ret
    exact ⟨rfl, ((Below.refl _ _).alloc (Nat.le_refl _) _)⟩

set_option maxHeartbeats 400000 in
theorem dom_other (kd n p0 p1 p2 p3 : Int) (w : World) (h2 : (kd == 2) = false) (h3 : (kd == 3) = false) (h0 : (kd == 0) = false) (h1 : (kd == 1) = false) :
    Calls Try.prog 23 #[.int .i64 kd, .int .i64 n, .agg #[.int .u16 p0, .int .u16 p1, .int .u16 p2, .int .u16 p3]] w fun e w' => e = .returned (.bool false) ∧ Below w.heap.size w w' := by
  go_enter Try.func23, Try.ntmps23
  go_wp2
  go_ret
  exact ⟨rfl, ((Below.refl _ _).alloc (Nat.le_refl _) _)⟩

set_option maxHeartbeats 400000 in
theorem dom_probes (kd n p0 p1 p2 p3 : Int) (w : World) (h : kd = 0 ∨ kd = 1) :
    Calls Try.prog 23 #[.int .i64 kd, .int .i64 n, .agg #[.int .u16 p0, .int .u16 p1, .int .u16 p2, .int .u16 p3]] w fun e w' => e = .returned (.bool (smallTo [p0, p1, p2, p3] 4)) ∧ Below w.heap.size w w' := by
  have HP : Hid (∀ k : Nat, k < 4 → ∃ q : Int, (#[Value.int .u16 p0, .int .u16 p1, .int .u16 p2, .int .u16 p3])[k]? = some (Value.int .u16 q) ∧ smallTo [p0, p1, p2, p3] (k + 1) = (smallTo [p0, p1, p2, p3] k && decide (q ≤ 511)) ∧ (¬ q ≤ 511 → smallTo [p0, p1, p2, p3] 4 = false)) := at_four p0 p1 p2 p3
  rcases h with rfl | rfl
  all_goals
    go_enter Try.func23, Try.ntmps23
    go_wp2
    go_loop [7] (fun i => ∃ k : Nat, k ≤ 4 ∧ i = .int .i64 k ∧ Hid (smallTo [p0, p1, p2, p3] k = true)) (fun i => 4 - (intOf i).toNat)
    case atStart => exact ⟨0, by omega, rfl, by show smallTo _ _ = true; simp [smallTo]⟩
    case round =>
      obtain ⟨k, hk, rfl, ht⟩ := hrel
      by_cases hlt : k < 4
      · obtain ⟨q, hq, hs, hf⟩ := HP.out k hlt
        have hcell : (w.alloc (.cells #[Value.int .u16 p0, .int .u16 p1, .int .u16 p2, .int .u16 p3] 37)).cell? ⟨w.heap.size, k, none⟩ = some (Value.int .u16 q) := by
          rw [cell_of_row _ _ _ _ _ _ (heap_alloc_new _ _)]; exact hq
        by_cases hv : q ≤ 511
        · have hz : ¬ 512 ≤ q := by omega
          have HS : Hid (smallTo [p0, p1, p2, p3] (k + 1) = true) := by show smallTo _ _ = true; rw [hs, ht.out]; simp [hv]
          clear hs hf hq hv
          go_wp2
          go_round
          case rel => exact ⟨k + 1, by omega, by go_num, HS⟩
          case measure => simp [intOf]; omega
        · have hz : 512 ≤ q := by omega
          have HF : Hid (smallTo [p0, p1, p2, p3] 4 = false) := hf (by omega)
          clear hs hf hq hv
          go_wp2
          go_ret
          exact ⟨by rw [HF.out]; rfl, ((Below.refl _ _).alloc (Nat.le_refl _) _)⟩
      · obtain rfl : k = 4 := by omega
        go_wp2
        go_ret
        exact ⟨by rw [ht.out]; rfl, ((Below.refl _ _).alloc (Nat.le_refl _) _)⟩

theorem dom_any (kd n p0 p1 p2 p3 : Int) (w : World) :
    Calls Try.prog 23 #[.int .i64 kd, .int .i64 n, .agg #[.int .u16 p0, .int .u16 p1, .int .u16 p2, .int .u16 p3]] w fun e w' => e = .returned (.bool (domB kd n p0 p1 p2 p3)) ∧ Below w.heap.size w w' := by
  unfold domB
  by_cases h2 : kd = 2
  · subst h2; rw [if_pos rfl]; exact dom_fac n p0 p1 p2 p3 w
  · rw [if_neg h2]
    by_cases h3 : kd = 3
    · subst h3; rw [if_pos rfl]; exact dom_sev n p0 p1 p2 p3 w
    · rw [if_neg h3]
      by_cases h : kd = 0 ∨ kd = 1
      · rw [if_pos h]
        have e : decide (p0 ≤ 511 ∧ p1 ≤ 511 ∧ p2 ≤ 511 ∧ p3 ≤ 511) = smallTo [p0, p1, p2, p3] 4 := by
          rw [Bool.eq_iff_iff]; simp [smallTo]
        rw [e]
        exact dom_probes kd n p0 p1 p2 p3 w h
      · rw [if_neg h]
        exact dom_other kd n p0 p1 p2 p3 w (by simpa using h2) (by simpa using h3) (by simp; omega) (by simp; omega)

end Go.Proofs.Qxb6601108a
