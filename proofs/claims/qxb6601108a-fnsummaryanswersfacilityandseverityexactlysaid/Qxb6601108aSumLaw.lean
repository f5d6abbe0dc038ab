/-
  THE PLAIN LAW of FnSummaryAnswersFacilityAndSeverityExactly: a summary built event by event answers a facility or severity query just where some event does. No Go in sight.
-/
import Derived.Test.Qxb6601108aMay
namespace Go.Proofs.Qxb6601108a
open Go.RowKit
set_option linter.unusedVariables false

theorem fin_or : ∀ n : Fin 256, ∀ i j : Fin 8, ((n.val ||| 2 ^ j.val) / 2 ^ i.val % 2 == 1) = ((n.val / 2 ^ i.val % 2 == 1) || i.val == j.val) := by decide +kernel

theorem or_bit (x : Int) (i j : Nat) (h0 : 0 ≤ x) (h1 : x ≤ 255) (hi : i ≤ 7) (hj : j ≤ 7) : bitB (bits .or .u8 x (2 ^ j)) i = (bitB x i || i == j) := by
  obtain ⟨n, rfl⟩ := Int.eq_ofNat_of_zero_le h0
  have hle : (2 : Nat) ^ j ≤ 2 ^ 7 := Nat.pow_le_pow_right (by omega) hj
  have e : (2 : Int) ^ j = ((2 ^ j : Nat) : Int) := by simp
  rw [e, u8_or_nat n (2 ^ j) (by omega) (by omega), bitB_nat, bitB_nat]
  exact fin_or ⟨n, by omega⟩ ⟨i, by omega⟩ ⟨j, by omega⟩

theorem or_bd (x : Int) (j : Nat) (h0 : 0 ≤ x) (h1 : x ≤ 255) (hj : j ≤ 7) : 0 ≤ bits .or .u8 x (2 ^ j) ∧ bits .or .u8 x (2 ^ j) ≤ 255 := by
  obtain ⟨n, rfl⟩ := Int.eq_ofNat_of_zero_le h0
  have hle : (2 : Nat) ^ j ≤ 2 ^ 7 := Nat.pow_le_pow_right (by omega) hj
  have e : (2 : Int) ^ j = ((2 ^ j : Nat) : Int) := by simp
  rw [e, u8_or_nat n (2 ^ j) (by omega) (by omega)]
  have : n ||| 2 ^ j < 2 ^ 8 := Nat.or_lt_two_pow (by omega) (by omega)
  omega

/-- the event has a priority, of facility f -/
def hasF (f : Nat) (p : Int) : Bool := decide (0 ≤ p ∧ p / 8 = f)
/-- the event has a priority, of severity s -/
def hasS (s : Nat) (p : Int) : Bool := decide (0 ≤ p ∧ p % 8 = s)

/-- the summary T is that of the priorities ps -/
structure Inv (T ps : List Int) : Prop where
  len : T.length = 68
  bd : ∀ i, 0 ≤ T.getD i 0 ∧ T.getD i 0 ≤ 255
  fac : ∀ f, f < 24 → bitB (T.getD (f / 8) 0) (f % 8) = ps.any (hasF f)
  sev : ∀ s, s < 8 → bitB (T.getD 3 0) s = ps.any (hasS s)

theorem getD_set (T : List Int) (i j : Nat) (x : Int) (h : i < T.length) : (T.set i x).getD j 0 = if j = i then x else T.getD j 0 := by
  by_cases e : j = i
  · subst e; simp [h]
  · simp [e, Ne.symm e]

theorem inv_none {T ps : List Int} (h : Inv T ps) : Inv T (ps ++ [-1]) :=
  ⟨h.len, h.bd, fun f hf => by rw [h.fac f hf, List.any_append]; simp [hasF], fun s hs => by rw [h.sev s hs, List.any_append]; simp [hasS]⟩

/-- one event more -/
theorem inv_some {T ps : List Int} (h : Inv T ps) (p : Int) (h0 : 0 ≤ p) (h1 : p ≤ 191) :
    Inv ((T.set (p / 8 / 8).toNat (bits .or .u8 (T.getD (p / 8 / 8).toNat 0) (2 ^ (p / 8 % 8).toNat))).set 3 (bits .or .u8 ((T.set (p / 8 / 8).toNat (bits .or .u8 (T.getD (p / 8 / 8).toNat 0) (2 ^ (p / 8 % 8).toNat))).getD 3 0) (2 ^ (p % 8).toNat))) (ps ++ [p]) := by
  have hl := h.len
  have e3 : (T.set (p / 8 / 8).toNat (bits .or .u8 (T.getD (p / 8 / 8).toNat 0) (2 ^ (p / 8 % 8).toNat))).getD 3 0 = T.getD 3 0 := by
    rw [getD_set _ _ _ _ (by omega), if_neg (by omega)]
  rw [e3]
  have hb1 := h.bd (p / 8 / 8).toNat
  have hb3 := h.bd 3
  have o1 := or_bd _ (p / 8 % 8).toNat hb1.1 hb1.2 (by omega)
  have o3 := or_bd _ (p % 8).toNat hb3.1 hb3.2 (by omega)
  refine ⟨by simpa using hl, fun i => ?_, fun f hf => ?_, fun s hs => ?_⟩
  · rw [getD_set _ _ _ _ (by simp; omega)]
    by_cases e : i = 3
    · rw [if_pos e]; exact o3
    · rw [if_neg e, getD_set _ _ _ _ (by omega)]
      by_cases e' : i = (p / 8 / 8).toNat
      · rw [if_pos e']; exact o1
      · rw [if_neg e']; exact h.bd i
  · rw [getD_set _ _ _ _ (by simp; omega), if_neg (by omega), getD_set _ _ _ _ (by omega), List.any_append, ← h.fac f hf]
    have hbf := h.bd (f / 8)
    by_cases e : f / 8 = (p / 8 / 8).toNat
    · rw [if_pos e, ← e, or_bit _ _ _ hbf.1 hbf.2 (by omega) (by omega)]
      congr 1
      simp only [List.any_cons, List.any_nil, Bool.or_false, hasF]
      rw [Bool.eq_iff_iff]; simp; omega
    · rw [if_neg e]
      have : [p].any (hasF f) = false := by simp [hasF]; omega
      rw [this, Bool.or_false]
  · rw [getD_set _ _ _ _ (by simp; omega), if_pos rfl, or_bit _ _ _ hb3.1 hb3.2 (by omega) (by omega), List.any_append, ← h.sev s hs]
    congr 1
    simp only [List.any_cons, List.any_nil, Bool.or_false, hasS]
    rw [Bool.eq_iff_iff]; simp; omega

/-- what a query of the kind answers for one event -/
def mB (kd n p : Int) : Bool := if kd = 2 then facB p == n else mSev p n
/-- .. and for a summary -/
def ansB (kd n : Int) (T : List Int) : Bool := if kd = 2 then bitB (T.getD (n / 8).toNat 0) (n % 8).toNat else anyTo (T.getD 3 0) (n.toNat + 1)

theorem mB_two (n p : Int) : mB 2 n p = (facB p == n) := by simp [mB]
theorem mB_three (n p : Int) : mB 3 n p = mSev p n := by simp [mB]

theorem ans_eq {T ps : List Int} (h : Inv T ps) (hv : ∀ p ∈ ps, validB p = true) (kd n : Int) (hk : kd = 2 ∨ kd = 3) (hd : domB kd n 0 0 0 0 = true) : ansB kd n T = ps.any (mB kd n) := by
  rcases hk with rfl | rfl
  · have hn : 0 ≤ n ∧ n ≤ 23 := by simpa [domB] using hd
    simp only [ansB, if_true]
    have := h.fac n.toNat (by omega)
    rw [show n.toNat / 8 = (n / 8).toNat by omega, show n.toNat % 8 = (n % 8).toNat by omega] at this
    rw [this, Bool.eq_iff_iff]
    simp only [List.any_eq_true]
    constructor
    · rintro ⟨p, hp, h2⟩
      refine ⟨p, hp, ?_⟩
      simp [hasF] at h2
      rw [mB_two, facB, if_neg (by omega)]; simp; omega
    · rintro ⟨p, hp, h2⟩
      refine ⟨p, hp, ?_⟩
      have hv' := hv p hp
      simp [validB] at hv'
      by_cases e : p = -1
      · rw [mB_two, facB, if_pos e] at h2; simp at h2; omega
      · rw [mB_two, facB, if_neg e] at h2; simp at h2; simp [hasF]; omega
  · have hn : 0 ≤ n ∧ n ≤ 7 := by simpa [domB] using hd
    simp only [ansB]
    rw [if_neg (by omega), Bool.eq_iff_iff]
    simp only [anyTo, List.any_eq_true, List.mem_range]
    constructor
    · rintro ⟨s, hs, h2⟩
      rw [h.sev s (by omega)] at h2
      simp only [List.any_eq_true] at h2
      obtain ⟨p, hp, h3⟩ := h2
      refine ⟨p, hp, ?_⟩
      simp [hasS] at h3
      rw [mB_three]
      simp [mSev]; omega
    · rintro ⟨p, hp, h2⟩
      rw [mB_three] at h2
      simp [mSev] at h2
      have hv' := hv p hp
      simp [validB] at hv'
      refine ⟨(p % 8).toNat, by omega, ?_⟩
      rw [h.sev _ (by omega)]
      simp only [List.any_eq_true]
      exact ⟨p, hp, by simp [hasS]; omega⟩

/-- the start: four zero bytes, then the filter -/
theorem inv_start (T : List Int) (hl : T.length = 68) (hb : ∀ i, 0 ≤ T.getD i 0 ∧ T.getD i 0 ≤ 255) (hz : ∀ i, i < 4 → T.getD i 0 = 0) : Inv T [] := by
  have hb0 : ∀ j, bitB 0 j = false := fun j => by simp [bitB]
  refine ⟨hl, hb, fun f hf => ?_, fun s hs => ?_⟩
  · rw [hz _ (by omega), hb0]; rfl
  · rw [hz _ (by omega), hb0]; rfl

end Go.Proofs.Qxb6601108a
