/-
  isCanonicalMonth (8) and the walk of FnIsMonthIsCanonicalMonthText (3).
-/
import Derived.Test.Qxb6605273aMonth
import Derived.BigQuiet
import Derived.Deep.QuietTactic
namespace Go.Proofs.Qxb6605273a
open Go.RowKit
set_option linter.unusedVariables false

theorem dv_le (c : Nat) : dv c ≤ 9 := by unfold dv; split <;> omega
theorem dv_dg {c : Nat} (h : Dg c) : dv c = c - 48 := if_pos h

/-- year and month as read off a text -/
def yr (s : ByteArray) : Nat := dv (at_ s 0) * 1000 + dv (at_ s 1) * 100 + dv (at_ s 2) * 10 + dv (at_ s 3)
def mo (s : ByteArray) : Nat := dv (at_ s 5) * 10 + dv (at_ s 6)
theorem yr_le (s : ByteArray) : yr s ≤ 9999 := by
  have := dv_le (at_ s 0); have := dv_le (at_ s 1); have := dv_le (at_ s 2); have := dv_le (at_ s 3)
  unfold yr; omega
theorem mo_le (s : ByteArray) : mo s ≤ 99 := by
  have := dv_le (at_ s 5); have := dv_le (at_ s 6)
  unfold mo; omega

theorem canon_law (s : ByteArray) (hs : s.size = 7) : Mon s ↔ 1 ≤ mo s ∧ mo s ≤ 12 ∧ (⟨(monthL (yr s) (mo s)).toArray⟩ : ByteArray) = s := by
  constructor
  · rintro ⟨_, h4, hd, l, u⟩
    have e0 := dv_dg (hd 0 (by omega) (by omega))
    have e1 := dv_dg (hd 1 (by omega) (by omega))
    have e2 := dv_dg (hd 2 (by omega) (by omega))
    have e3 := dv_dg (hd 3 (by omega) (by omega))
    have e5 := dv_dg (hd 5 (by omega) (by omega))
    have e6 := dv_dg (hd 6 (by omega) (by omega))
    have d0 := hd 0 (by omega) (by omega)
    have d1 := hd 1 (by omega) (by omega)
    have d2 := hd 2 (by omega) (by omega)
    have d3 := hd 3 (by omega) (by omega)
    have d5 := hd 5 (by omega) (by omega)
    have d6 := hd 6 (by omega) (by omega)
    have ey : yr s = (at_ s 0 - 48) * 1000 + (at_ s 1 - 48) * 100 + (at_ s 2 - 48) * 10 + (at_ s 3 - 48) := by unfold yr; rw [e0, e1, e2, e3]
    have em : mo s = (at_ s 5 - 48) * 10 + (at_ s 6 - 48) := by unfold mo; rw [e5, e6]
    refine ⟨by rw [em]; exact l, by rw [em]; exact u, ?_⟩
    generalize yr s = y at *
    generalize mo s = m at *
    clear hd e0 e1 e2 e3 e5 e6
    obtain ⟨a, b, c, d, e, f, g, rfl⟩ := seven s hs
    rw [month_list]
    have q : ∀ (x : UInt8) (n : Nat), 48 + n % 10 = x.toNat → dig n = x := by
      intro x n h
      apply UInt8.toNat_inj.1
      rw [dig_nat]; exact h
    change Dg a.toNat at d0
    change Dg b.toNat at d1
    change Dg c.toNat at d2
    change Dg d.toNat at d3
    change Dg f.toNat at d5
    change Dg g.toNat at d6
    change y = (a.toNat - 48) * 1000 + (b.toNat - 48) * 100 + (c.toNat - 48) * 10 + (d.toNat - 48) at ey
    change m = (f.toNat - 48) * 10 + (g.toNat - 48) at em
    change e.toNat = 45 at h4
    unfold Dg at *
    rw [q a (y / 1000) (by omega), q b (y / 100) (by omega), q c (y / 10) (by omega), q d y (by omega), q f (m / 10) (by omega), q g m (by omega)]
    have : e = 45 := UInt8.toNat_inj.1 h4
    rw [this]
  · rintro ⟨l, u, h⟩
    have := (mon_month (yr s) (mo s) (by omega)).2 ⟨l, u⟩
    rw [h] at this
    exact this

theorem below_drewN (w : World) (n : Nat) : Below w.heap.size w (w.drewN n) := ⟨rfl, rfl, rfl, Nat.le_refl _, fun _ _ => rfl⟩

theorem canon_size (s : ByteArray) (w : World) (h : s.size ≠ 7) :
    Calls Try.prog 8 #[.string s] w fun e w' => e = .returned (.bool false) ∧ Below w.heap.size w w' := by
  go_enter Try.func8, Try.ntmps8
  go_wp2
  go_ret
  exact ⟨rfl, Below.refl _ _⟩

set_option maxHeartbeats 1000000 in
theorem canon_seven (s : ByteArray) (w : World) (hs : s.size = 7) :
    Calls Try.prog 8 #[.string s] w fun e w' => MonAns s w w' e := by
  have HL : Hid (Mon s ↔ 1 ≤ mo s ∧ mo s ≤ 12 ∧ (⟨(monthL (yr s) (mo s)).toArray⟩ : ByteArray) = s) := canon_law s hs
  have e0 := idx s 0 (by omega)
  have e1 := idx s 1 (by omega)
  have e2 := idx s 2 (by omega)
  have e3 := idx s 3 (by omega)
  have e5 := idx s 5 (by omega)
  have e6 := idx s 6 (by omega)
  have l0 := at_lt s 0
  have l1 := at_lt s 1
  have l2 := at_lt s 2
  have l3 := at_lt s 3
  have l5 := at_lt s 5
  have l6 := at_lt s 6
  have HY : Hid (yr s = dv (at_ s 0) * 1000 + dv (at_ s 1) * 100 + dv (at_ s 2) * 10 + dv (at_ s 3)) := rfl
  have HO : Hid (mo s = dv (at_ s 5) * 10 + dv (at_ s 6)) := rfl
  generalize at_ s 0 = x0 at *
  generalize at_ s 1 = x1 at *
  generalize at_ s 2 = x2 at *
  generalize at_ s 3 = x3 at *
  generalize at_ s 5 = x5 at *
  generalize at_ s 6 = x6 at *
  have m0 := dv_le x0
  have m1 := dv_le x1
  have m2 := dv_le x2
  have m3 := dv_le x3
  have m5 := dv_le x5
  have m6 := dv_le x6
  go_enter Try.func8, Try.ntmps8
  go_wp2
  go_quiet ((go_at_call 16; exact Calls.quiet_of_same (digit_any _ _ (by assumption))))
  have EY : ((dv x0 : Int) * 1000 + (dv x1 : Int) * 100 + (dv x2 : Int) * 10 + (dv x3 : Int)) = ((yr s : Nat) : Int) := by rw [HY.out]; omega
  rw [EY]
  have hy := yr_le s
  have hm := mo_le s
  clear m0 m1 m2 m3 l0 l1 l2 l3 e0 e1 e2 e3 EY HY
  have B1 : Below w.heap.size w (w.drewN nq) := below_drewN w nq
  generalize w.drewN nq = w1 at *
  go_wp2
  go_quiet ((go_at_call 16; exact Calls.quiet_of_same (digit_any _ _ (by assumption))))
  have EM : ((dv x5 : Int) * 10 + (dv x6 : Int)) = ((mo s : Nat) : Int) := by rw [HO.out]; omega
  rw [EM]
  clear m5 m6 l5 l6 e5 e6 EM HO
  have B2 : Below w.heap.size w (w1.drewN nq) := B1.trans ((below_drewN w1 nq).mono B1.size)
  generalize w1.drewN nq = w3 at *
  have HM := fun w => month_any (yr s) (mo s) w hy hm
  generalize yr s = y at *
  generalize mo s = m at *
  generalize (⟨(monthL y m).toArray⟩ : ByteArray) = M at *
  by_cases h1 : 1 ≤ m
  · by_cases h2 : m ≤ 12
    · go_wp2_with (go_at_call 9; refine (HM _).mono ?_; rintro e w2 ⟨rfl, b2⟩)
      go_ret
      refine ⟨_, ?_, rfl, ?_⟩
      · show _ ↔ _
        rw [HL.out]
        constructor
        · intro h
          refine ⟨h1, h2, Go.WideShapes.bytes_inj ?_⟩
          rw [← ByteArray.toList_eq, ← ByteArray.toList_eq]
          exact eq_of_beq h
        · rintro ⟨_, _, rfl⟩
          exact beq_self_eq_true _
      · exact B2.trans (b2.mono B2.size)
    · go_wp2
      go_ret
      exact ⟨false, ⟨fun h => by simp at h, fun h => absurd (HL.out.1 h).2.1 h2⟩, rfl, B2⟩
  · go_wp2
    go_ret
    exact ⟨false, ⟨fun h => by simp at h, fun h => absurd (HL.out.1 h).1 h1⟩, rfl, B2⟩

theorem canon_any (s : ByteArray) (w : World) :
    Calls Try.prog 8 #[.string s] w fun e w' => MonAns s w w' e := by
  by_cases hs : s.size = 7
  · exact canon_seven s w hs
  · refine (canon_size s w hs).mono ?_
    rintro e w' ⟨rfl, hb⟩
    exact ⟨false, ⟨fun h => by simp at h, fun h => absurd h.1 hs⟩, rfl, hb⟩

/-- what the bound on lengths (6) answers: nothing more than this is asked of it -/
theorem bytes6 (s : ByteArray) (w : World) (hs : s.size ≤ maxLen) : Calls Try.prog 6 #[.string s] w fun e w' => (e = .returned (.bool false) ∨ e = .returned (.bool true) ∧ s.size ≤ 1048576) ∧ w' = w := by
  have hm : maxLen = 9223372036854775807 := rfl
  rw [hm] at hs
  by_cases h : s.size ≤ 1048576
  · go_enter Try.func6, Try.ntmps6
    go_wp2
    go_ret
    exact ⟨.inr ⟨rfl, h⟩, rfl⟩
  · go_enter Try.func6, Try.ntmps6
    go_wp2
    go_ret
    exact ⟨.inl rfl, rfl⟩

set_option maxHeartbeats 400000 in
theorem walk_canon (s : ByteArray) (w : World) (hs : s.size ≤ maxLen) :
    Calls Try.prog 3 #[.string s] w fun e w' => e = .returned (.bool true) ∧ Below w.heap.size w w' := by
  go_enter Try.func3, Try.ntmps3
  go_wp2_with (go_at_call 6; refine (bytes6 s w hs).mono ?_; rintro e w' ⟨(rfl | ⟨rfl, hsz⟩), rfl⟩)
  · go_ret
    exact ⟨rfl, Below.refl _ _⟩
  · go_wp2_with (first | (go_at_call 7; refine (zzis_any s _).mono ?_; rintro e w1 ⟨r, hr, rfl, b1⟩) | (go_at_call 8; refine (canon_any s _).mono ?_; rintro e w2 ⟨r2, hr2, rfl, b2⟩; obtain rfl : r2 = r := Bool.eq_iff_iff.2 (hr2.out.trans hr.out.symm)))
    go_ret
    exact ⟨by simp, b1.trans (b2.mono b1.size)⟩

end Go.Proofs.Qxb6605273a
