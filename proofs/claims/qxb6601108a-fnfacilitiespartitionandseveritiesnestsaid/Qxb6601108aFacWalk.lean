/-
  The walk of FnFacilitiesPartitionAndSeveritiesNest (6): the loop over the facilities, the three severity queries. Its regions that draw their order are walked once, by Derived/Lib/QuietBelow.lean.
-/
import Derived.Test.Qxb6601108aSmall
import Derived.Lib.QuietBelow
namespace Go.Proofs.Qxb6601108a
open Go.RowKit
set_option linter.unusedVariables false

/-- what the law keeps in memory: the event's attributes in block B, the empty probes in block B + 1 -/
structure Lies (p : Int) (B : Nat) (w wr : World) : Prop where
  bel : Below B w wr
  sz : B + 2 ≤ wr.heap.size
  a0 : wr.cell? ⟨B, 0, none⟩ = some (.int .i64 p)
  a1 : wr.cell? ⟨B, 1, none⟩ = some (.slice none 0 0)
  a2 : wr.cell? ⟨B, 2, none⟩ = some (.slice none 0 0)
  n0 : wr.cell? ⟨B + 1, 0, none⟩ = some (.int .u16 0)
  n1 : wr.cell? ⟨B + 1, 1, none⟩ = some (.int .u16 0)
  n2 : wr.cell? ⟨B + 1, 2, none⟩ = some (.int .u16 0)
  n3 : wr.cell? ⟨B + 1, 3, none⟩ = some (.int .u16 0)

theorem Lies.on {p : Int} {B : Nat} {w a b : World} (h : Lies p B w a) (k : Below a.heap.size a b) : Lies p B w b := by
  have hs := h.sz
  refine ⟨h.bel.trans (k.mono (by omega)), by have := k.size; omega, ?_, ?_, ?_, ?_, ?_, ?_, ?_⟩
  · rw [k.cell (by show B < _; omega)]; exact h.a0
  · rw [k.cell (by show B < _; omega)]; exact h.a1
  · rw [k.cell (by show B < _; omega)]; exact h.a2
  · rw [k.cell (by show B + 1 < _; omega)]; exact h.n0
  · rw [k.cell (by show B + 1 < _; omega)]; exact h.n1
  · rw [k.cell (by show B + 1 < _; omega)]; exact h.n2
  · rw [k.cell (by show B + 1 < _; omega)]; exact h.n3

theorem undrew {w w' : World} (h : Below w.drew.heap.size w.drew w') : Below w.heap.size w w' := ⟨h.os, h.tape, h.output, h.size, h.block⟩

theorem Lies.all {p : Int} {B : Nat} {w wr : World} (h : Lies p B w wr) : B + 2 ≤ wr.heap.size ∧ wr.cell? ⟨B, 0, none⟩ = some (.int .i64 p) ∧ wr.cell? ⟨B, 1, none⟩ = some (.slice none 0 0) ∧ wr.cell? ⟨B, 2, none⟩ = some (.slice none 0 0)
    ∧ wr.cell? ⟨B + 1, 0, none⟩ = some (.int .u16 0) ∧ wr.cell? ⟨B + 1, 1, none⟩ = some (.int .u16 0) ∧ wr.cell? ⟨B + 1, 2, none⟩ = some (.int .u16 0) ∧ wr.cell? ⟨B + 1, 3, none⟩ = some (.int .u16 0) :=
  ⟨h.sz, h.a0, h.a1, h.a2, h.n0, h.n1, h.n2, h.n3⟩

/-- the count of facilities below k that match -/
def cnt (p : Int) (k : Nat) : Int := if 0 ≤ p ∧ p / 8 < k then 1 else 0

theorem cnt_le (p : Int) (k : Nat) : 0 ≤ cnt p k ∧ cnt p k ≤ 1 := by unfold cnt; split <;> omega


theorem cnt_succ (p : Int) (k : Nat) : cnt p (k + 1) = cnt p k + if 0 ≤ p ∧ p / 8 = k then 1 else 0 := by
  unfold cnt
  by_cases h : 0 ≤ p <;> by_cases h2 : p / 8 < k <;> by_cases h3 : p / 8 = k <;> simp [h, h2, h3] <;> omega

/-- the test's Bool form of 'the facility is f' -/
theorem fac_eq (p : Int) (k : Nat) (h : -1 ≤ p) : (facB p == (k : Int)) = decide (0 ≤ p ∧ p / 8 = k) := by
  unfold facB
  rw [Bool.eq_iff_iff]
  simp
  split <;> omega

theorem matches_sev_b (p n : Int) (s : ByteArray) (p0 p1 p2 p3 : Int) (w : World) (h : -1 ≤ p) (h2 : p ≤ 191) (b : Bool) (hm : Hid (mSev p n = b)) :
    Calls Try.prog 21 #[.agg #[.int .i64 3, .string s, .int .i64 n, .int .u16 p0, .int .u16 p1, .int .u16 p2, .int .u16 p3], .agg #[.int .i64 p, .slice none 0 0, .slice none 0 0]] w fun e w' => e = .returned (.bool b) ∧ Below w.heap.size w w' := by
  have := matches_sev p n s p0 p1 p2 p3 w h h2
  rw [hm.out] at this
  exact this

theorem cnt_none (k : Nat) : cnt (-1) k = 0 := by unfold cnt; rw [if_neg (by omega)]

set_option maxHeartbeats 1000000 in
theorem walk_has (p : Int) (n : Int) (w : World) (hp1 : 0 ≤ p) (hp2 : p ≤ 191) (hn : (n == 9223372036854775807) = false) (hn2 : n < 9223372036854775807) (hn0 : -9223372036854775808 ≤ n) :
    Calls Try.prog 6 #[.int .i64 p, .int .i64 n] w fun e w' => e = .returned (.bool true) ∧ Below w.heap.size w w' := by
  have HV : Hid (validB p = true) := by show validB p = true; simp [validB]; omega
  have hpl : -1 ≤ p := by omega
  have e1 : (p == -1) = false := by simp; omega
  have e2 : (p != -1) = true := by simp; omega
  go_enter Try.func6, Try.ntmps6
  go_wp2_with (go_at_call 19; refine (valid_any _ _).mono ?_; rintro e w ⟨rfl, rfl⟩; rw [HV.out])
  go_loopw [7, 8] (fun c f wr => ∃ k : Nat, k ≤ 24 ∧ f = .int .i64 k ∧ c = .int .i64 (cnt p k) ∧ Lies p w.heap.size w wr) (fun _ f _ => 24 - (intOf f).toNat)
  case atStart =>
    refine ⟨0, by omega, rfl, ?_, ?_⟩
    · have : cnt p 0 = 0 := by unfold cnt; rw [if_neg (by omega)]
      simp [this]
    · constructor
      · exact ((Below.refl _ _).alloc (Nat.le_refl _) _).alloc (by simp) _
      all_goals simp
  case round =>
    obtain ⟨k, hk, rfl, rfl, L⟩ := hrel
    have hc := cnt_le p k
    obtain ⟨hs, a0, a1, a2, n0, n1, n2, n3⟩ := L.all
    have a0 := cell_regrown a0
    have a1 := cell_regrown a1
    have a2 := cell_regrown a2
    have n0 := cell_regrown n0
    have n1 := cell_regrown n1
    have n2 := cell_regrown n2
    have n3 := cell_regrown n3
    by_cases hlt : k < 24
    · go_wp2
      refine wp_region_quiet_below (by kernel_rfl) (by kernel_rfl) ?_
      repeat (first | go_big_quiet_step ((first | (go_at_call 20; exact Calls.regrown_of (zzq_any _ _ _ _ _ _ _ _)) | (go_at_call 21; exact Calls.regrown_of (matches_fac _ _ _ _ _ _ _ _ hpl hp2)))) | quiet_step ((first | (go_at_call 20; exact Calls.regrown_of (zzq_any _ _ _ _ _ _ _ _)) | (go_at_call 21; exact Calls.regrown_of (matches_fac _ _ _ _ _ _ _ _ hpl hp2)))))
      refine wpQuiet_nil ?_
      intro wq hw'
      obtain ⟨⟨dq, osq⟩, hw''⟩ := hw'
      have L2 : Lies p w.heap.size w wq := by rw [hw'']; exact L.on (below_regrown _ _ _)
      clear hw''
      by_cases hm : 0 ≤ p ∧ p / 8 = k
      · have hm' : (facB p == (k : Int)) = true := by rw [fac_eq p k (by omega)]; simpa using hm
        clear hm
        go_wp2
        go_roundw
        case rel => exact ⟨k + 1, by omega, by go_num, by rw [cnt_succ]; rw [fac_eq p k (by omega)] at hm'; rw [if_pos (by simpa using hm')], L2⟩
        case measure => simp [intOf]; omega
      · have hm' : (facB p == (k : Int)) = false := by rw [fac_eq p k (by omega)]; simpa using hm
        clear hm
        go_wp2
        go_roundw
        case rel => exact ⟨k + 1, by omega, by go_num, by rw [cnt_succ]; rw [fac_eq p k (by omega)] at hm'; rw [if_neg (by simpa using hm')]; simp, L2⟩
        case measure => simp [intOf]; omega
    · obtain rfl : k = 24 := by omega
      have e5 : cnt p 24 = 1 := by unfold cnt; rw [if_pos (by omega)]
      rw [e5]
      clear hc e5
      go_wp2
      have H7 : Hid (mSev p 7 = true) := by show mSev p 7 = true; simp [mSev]; omega
      have HN : Hid (mSev p n = true → mSev p (n + 1) = true) := by show mSev p n = true → mSev p (n + 1) = true; simp [mSev]; omega
      cases hm : mSev p n
      · have HM : Hid (mSev p n = false) := hm
        clear hm
        refine wp_region_quiet_below (by kernel_rfl) (by kernel_rfl) ?_
        repeat (first | go_big_quiet_step ((first | (go_at_call 20; exact Calls.regrown_of (zzq_any _ _ _ _ _ _ _ _)) | (go_at_call_of 21 (Value.int .i64 n); exact Calls.regrown_of (matches_sev_b _ _ _ _ _ _ _ _ hpl hp2 _ HM)) | (go_at_call 21; exact Calls.regrown_of (matches_sev_b _ _ _ _ _ _ _ _ hpl hp2 _ HN)))) | quiet_step ((first | (go_at_call 20; exact Calls.regrown_of (zzq_any _ _ _ _ _ _ _ _)) | (go_at_call_of 21 (Value.int .i64 n); exact Calls.regrown_of (matches_sev_b _ _ _ _ _ _ _ _ hpl hp2 _ HM)) | (go_at_call 21; exact Calls.regrown_of (matches_sev_b _ _ _ _ _ _ _ _ hpl hp2 _ HN)))))
        refine wpQuiet_nil ?_
        intro wq hw'
        obtain ⟨⟨dq, osq⟩, hw''⟩ := hw'
        have L2 : Lies p w.heap.size w wq := by rw [hw'']; exact L.on (below_regrown _ _ _)
        clear hw''
        go_wp2
        clear hs a0 a1 a2 n0 n1 n2 n3
        obtain ⟨hs, a0, a1, a2, n0, n1, n2, n3⟩ := L2.all
        have a0 := cell_regrown a0
        have a1 := cell_regrown a1
        have a2 := cell_regrown a2
        have n0 := cell_regrown n0
        have n1 := cell_regrown n1
        have n2 := cell_regrown n2
        have n3 := cell_regrown n3
        refine wp_region_quiet_below (by kernel_rfl) (by kernel_rfl) ?_
        repeat (first | go_big_quiet_step ((first | (go_at_call 20; exact Calls.regrown_of (zzq_any _ _ _ _ _ _ _ _)) | (go_at_call 21; exact Calls.regrown_of (matches_sev_b _ _ _ _ _ _ _ _ hpl hp2 _ H7)))) | quiet_step ((first | (go_at_call 20; exact Calls.regrown_of (zzq_any _ _ _ _ _ _ _ _)) | (go_at_call 21; exact Calls.regrown_of (matches_sev_b _ _ _ _ _ _ _ _ hpl hp2 _ H7)))))
        refine wpQuiet_nil ?_
        intro wq hw'
        obtain ⟨⟨dq, osq⟩, hw''⟩ := hw'
        have L3 : Lies p w.heap.size w wq := by rw [hw'']; exact L2.on (below_regrown _ _ _)
        clear hw''
        go_wp2
        go_ret
        exact ⟨rfl, L3.bel⟩
      · have HM : Hid (mSev p n = true) := hm
        have HN : Hid (mSev p (n + 1) = true) := HN.out hm
        clear hm
        refine wp_region_quiet_below (by kernel_rfl) (by kernel_rfl) ?_
        repeat (first | go_big_quiet_step ((first | (go_at_call 20; exact Calls.regrown_of (zzq_any _ _ _ _ _ _ _ _)) | (go_at_call_of 21 (Value.int .i64 n); exact Calls.regrown_of (matches_sev_b _ _ _ _ _ _ _ _ hpl hp2 _ HM)) | (go_at_call 21; exact Calls.regrown_of (matches_sev_b _ _ _ _ _ _ _ _ hpl hp2 _ HN)))) | quiet_step ((first | (go_at_call 20; exact Calls.regrown_of (zzq_any _ _ _ _ _ _ _ _)) | (go_at_call_of 21 (Value.int .i64 n); exact Calls.regrown_of (matches_sev_b _ _ _ _ _ _ _ _ hpl hp2 _ HM)) | (go_at_call 21; exact Calls.regrown_of (matches_sev_b _ _ _ _ _ _ _ _ hpl hp2 _ HN)))))
        refine wpQuiet_nil ?_
        intro wq hw'
        obtain ⟨⟨dq, osq⟩, hw''⟩ := hw'
        have L2 : Lies p w.heap.size w wq := by rw [hw'']; exact L.on (below_regrown _ _ _)
        clear hw''
        go_wp2
        clear hs a0 a1 a2 n0 n1 n2 n3
        obtain ⟨hs, a0, a1, a2, n0, n1, n2, n3⟩ := L2.all
        have a0 := cell_regrown a0
        have a1 := cell_regrown a1
        have a2 := cell_regrown a2
        have n0 := cell_regrown n0
        have n1 := cell_regrown n1
        have n2 := cell_regrown n2
        have n3 := cell_regrown n3
        refine wp_region_quiet_below (by kernel_rfl) (by kernel_rfl) ?_
        repeat (first | go_big_quiet_step ((first | (go_at_call 20; exact Calls.regrown_of (zzq_any _ _ _ _ _ _ _ _)) | (go_at_call 21; exact Calls.regrown_of (matches_sev_b _ _ _ _ _ _ _ _ hpl hp2 _ H7)))) | quiet_step ((first | (go_at_call 20; exact Calls.regrown_of (zzq_any _ _ _ _ _ _ _ _)) | (go_at_call 21; exact Calls.regrown_of (matches_sev_b _ _ _ _ _ _ _ _ hpl hp2 _ H7)))))
        refine wpQuiet_nil ?_
        intro wq hw'
        obtain ⟨⟨dq, osq⟩, hw''⟩ := hw'
        have L3 : Lies p w.heap.size w wq := by rw [hw'']; exact L2.on (below_regrown _ _ _)
        clear hw''
        go_wp2
        go_ret
        exact ⟨rfl, L3.bel⟩

set_option maxHeartbeats 1000000 in
theorem walk_none (n : Int) (w : World) (hn : (n == 9223372036854775807) = false) (hn2 : n < 9223372036854775807) (hn0 : -9223372036854775808 ≤ n) :
    Calls Try.prog 6 #[.int .i64 (-1), .int .i64 n] w fun e w' => e = .returned (.bool true) ∧ Below w.heap.size w w' := by
  have HV : Hid (validB (-1) = true) := by show validB (-1) = true; simp [validB]
  have hpl : (-1 : Int) ≤ -1 := by omega
  have hp2 : (-1 : Int) ≤ 191 := by omega
  go_enter Try.func6, Try.ntmps6
  go_wp2_with (go_at_call 19; refine (valid_any _ _).mono ?_; rintro e w ⟨rfl, rfl⟩; rw [HV.out])
  go_loopw [7, 8] (fun c f wr => ∃ k : Nat, k ≤ 24 ∧ f = .int .i64 k ∧ c = .int .i64 (cnt (-1) k) ∧ Lies (-1) w.heap.size w wr) (fun _ f _ => 24 - (intOf f).toNat)
  case atStart =>
    refine ⟨0, by omega, rfl, ?_, ?_⟩
    · have : cnt (-1) 0 = 0 := by unfold cnt; rw [if_neg (by omega)]
      simp [this]
    · constructor
      · exact ((Below.refl _ _).alloc (Nat.le_refl _) _).alloc (by simp) _
      all_goals simp
  case round =>
    obtain ⟨k, hk, rfl, rfl, L⟩ := hrel
    have hc := cnt_le (-1) k
    obtain ⟨hs, a0, a1, a2, n0, n1, n2, n3⟩ := L.all
    have a0 := cell_regrown a0
    have a1 := cell_regrown a1
    have a2 := cell_regrown a2
    have n0 := cell_regrown n0
    have n1 := cell_regrown n1
    have n2 := cell_regrown n2
    have n3 := cell_regrown n3
    by_cases hlt : k < 24
    · go_wp2
      refine wp_region_quiet_below (by kernel_rfl) (by kernel_rfl) ?_
      repeat (first | go_big_quiet_step ((first | (go_at_call 20; exact Calls.regrown_of (zzq_any _ _ _ _ _ _ _ _)) | (go_at_call 21; exact Calls.regrown_of (matches_fac _ _ _ _ _ _ _ _ hpl hp2)))) | quiet_step ((first | (go_at_call 20; exact Calls.regrown_of (zzq_any _ _ _ _ _ _ _ _)) | (go_at_call 21; exact Calls.regrown_of (matches_fac _ _ _ _ _ _ _ _ hpl hp2)))))
      refine wpQuiet_nil ?_
      intro wq hw'
      obtain ⟨⟨dq, osq⟩, hw''⟩ := hw'
      have L2 : Lies (-1) w.heap.size w wq := by rw [hw'']; exact L.on (below_regrown _ _ _)
      clear hw''
      have hm' : (facB (-1) == (k : Int)) = false := by rw [fac_eq (-1) k (by omega)]; simp
      go_wp2
      go_roundw
      case rel => exact ⟨k + 1, by omega, by go_num, by rw [cnt_none, cnt_none], L2⟩
      case measure => simp [intOf]; omega
    · obtain rfl : k = 24 := by omega
      have e5 : cnt (-1) 24 = 0 := cnt_none 24
      rw [e5]
      clear hc e5
      go_wp2
      have H7 : Hid (mSev (-1) 7 = false) := by show mSev (-1) 7 = false; simp [mSev]
      have HM : Hid (mSev (-1) n = false) := by show mSev (-1) n = false; simp [mSev]
      refine wp_region_quiet_below (by kernel_rfl) (by kernel_rfl) ?_
      repeat (first | go_big_quiet_step ((first | (go_at_call 20; exact Calls.regrown_of (zzq_any _ _ _ _ _ _ _ _)) | (go_at_call_of 21 (Value.int .i64 n); exact Calls.regrown_of (matches_sev_b _ _ _ _ _ _ _ _ hpl hp2 _ HM)))) | quiet_step ((first | (go_at_call 20; exact Calls.regrown_of (zzq_any _ _ _ _ _ _ _ _)) | (go_at_call_of 21 (Value.int .i64 n); exact Calls.regrown_of (matches_sev_b _ _ _ _ _ _ _ _ hpl hp2 _ HM)))))
      refine wpQuiet_nil ?_
      intro wq hw'
      obtain ⟨⟨dq, osq⟩, hw''⟩ := hw'
      have L2 : Lies (-1) w.heap.size w wq := by rw [hw'']; exact L.on (below_regrown _ _ _)
      clear hw''
      go_wp2
      clear hs a0 a1 a2 n0 n1 n2 n3
      obtain ⟨hs, a0, a1, a2, n0, n1, n2, n3⟩ := L2.all
      have a0 := cell_regrown a0
      have a1 := cell_regrown a1
      have a2 := cell_regrown a2
      have n0 := cell_regrown n0
      have n1 := cell_regrown n1
      have n2 := cell_regrown n2
      have n3 := cell_regrown n3
      refine wp_region_quiet_below (by kernel_rfl) (by kernel_rfl) ?_
      repeat (first | go_big_quiet_step ((first | (go_at_call 20; exact Calls.regrown_of (zzq_any _ _ _ _ _ _ _ _)) | (go_at_call 21; exact Calls.regrown_of (matches_sev_b _ _ _ _ _ _ _ _ hpl hp2 _ H7)))) | quiet_step ((first | (go_at_call 20; exact Calls.regrown_of (zzq_any _ _ _ _ _ _ _ _)) | (go_at_call 21; exact Calls.regrown_of (matches_sev_b _ _ _ _ _ _ _ _ hpl hp2 _ H7)))))
      refine wpQuiet_nil ?_
      intro wq hw'
      obtain ⟨⟨dq, osq⟩, hw''⟩ := hw'
      have L3 : Lies (-1) w.heap.size w wq := by rw [hw'']; exact L2.on (below_regrown _ _ _)
      clear hw''
      go_wp2
      go_ret
      exact ⟨rfl, L3.bel⟩

/-- a priority that is none: true at once -/
theorem walk_bad (p n : Int) (w : World) (hv : validB p = false) :
    Calls Try.prog 6 #[.int .i64 p, .int .i64 n] w fun e w' => e = .returned (.bool true) ∧ Below w.heap.size w w' := by
  have HV : Hid (validB p = false) := hv
  clear hv
  go_enter Try.func6, Try.ntmps6
  go_wp2_with (go_at_call 19; refine (valid_any _ _).mono ?_; rintro e w ⟨rfl, rfl⟩; rw [HV.out])
  go_ret
  exact ⟨rfl, Below.refl _ _⟩

theorem walk_max (p n : Int) (w : World) (hv : validB p = true) (hn : (n == 9223372036854775807) = true) :
    Calls Try.prog 6 #[.int .i64 p, .int .i64 n] w fun e w' => e = .returned (.bool true) ∧ Below w.heap.size w w' := by
  have HV : Hid (validB p = true) := hv
  clear hv
  go_enter Try.func6, Try.ntmps6
  go_wp2_with (go_at_call 19; refine (valid_any _ _).mono ?_; rintro e w ⟨rfl, rfl⟩; rw [HV.out])
  go_ret
  exact ⟨rfl, Below.refl _ _⟩

theorem walk_fac (p n : Int) (w : World) (hn0 : -9223372036854775808 ≤ n) (hn1 : n ≤ 9223372036854775807) :
    Calls Try.prog 6 #[.int .i64 p, .int .i64 n] w fun e w' => e = .returned (.bool true) ∧ Below w.heap.size w w' := by
  cases hv : validB p
  · exact walk_bad p n w hv
  · cases hn : n == 9223372036854775807
    · have hne : n ≠ 9223372036854775807 := by simpa using hn
      have hv' : p = -1 ∨ (0 ≤ p ∧ p ≤ 191) := by simpa [validB] using hv
      rcases hv' with rfl | ⟨h1, h2⟩
      · exact walk_none n w hn (by omega) hn0
      · exact walk_has p n w h1 h2 hn (by omega) hn0
    · exact walk_max p n w hv hn

end Go.Proofs.Qxb6601108a
