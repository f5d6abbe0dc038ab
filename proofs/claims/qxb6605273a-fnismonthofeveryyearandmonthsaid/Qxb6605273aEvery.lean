/-
  The walk of FnIsMonthOfEveryYearAndMonth (4).
-/
import Derived.Test.Qxb6605273aMonth
namespace Go.Proofs.Qxb6605273a
open Go.RowKit
set_option linter.unusedVariables false

theorem every_out (y m : Int) (w : World) (h : y < 0 ∨ 9999 < y ∨ m < 0 ∨ 99 < m) :
    Calls Try.prog 4 #[.int .i64 y, .int .i64 m] w fun e w' => e = .returned (.bool true) ∧ Below w.heap.size w w' := by
  by_cases h1 : y < 0
  · clear h
    go_enter Try.func4, Try.ntmps4
    go_wp2
    go_ret
    exact ⟨rfl, Below.refl _ _⟩
  by_cases h2 : 9999 < y
  · clear h
    go_enter Try.func4, Try.ntmps4
    go_wp2
    go_ret
    exact ⟨rfl, Below.refl _ _⟩
  by_cases h3 : m < 0
  · clear h
    go_enter Try.func4, Try.ntmps4
    go_wp2
    go_ret
    exact ⟨rfl, Below.refl _ _⟩
  have h4 : 99 < m := by omega
  clear h
  go_enter Try.func4, Try.ntmps4
  go_wp2
  go_ret
  exact ⟨rfl, Below.refl _ _⟩

set_option maxHeartbeats 400000 in
theorem every_in (y m : Nat) (w : World) (hy : y ≤ 9999) (hm : m ≤ 99) :
    Calls Try.prog 4 #[.int .i64 y, .int .i64 m] w fun e w' => e = .returned (.bool true) ∧ Below w.heap.size w w' := by
  have HL : Hid (Mon ⟨(monthL y m).toArray⟩ ↔ 1 ≤ m ∧ m ≤ 12) := mon_month y m hm
  have HM := fun w => month_any y m w hy hm
  generalize (⟨(monthL y m).toArray⟩ : ByteArray) = M at *
  by_cases h1 : 1 ≤ m
  · by_cases h2 : m ≤ 12
    · go_enter Try.func4, Try.ntmps4
      go_wp2_with (first | (go_at_call 9; refine (HM w).mono ?_; rintro e w1 ⟨rfl, b1⟩) | (go_at_call 7; refine (zzis_any M w1).mono ?_; rintro e w2 ⟨r, hr, rfl, b2⟩; obtain rfl : r = true := hr.out.2 (HL.out.2 ⟨h1, h2⟩)))
      go_ret
      exact ⟨by simp; omega, b1.trans (b2.mono b1.size)⟩
    · go_enter Try.func4, Try.ntmps4
      go_wp2_with (first | (go_at_call 9; refine (HM w).mono ?_; rintro e w1 ⟨rfl, b1⟩) | (go_at_call 7; refine (zzis_any M w1).mono ?_; rintro e w2 ⟨r, hr, rfl, b2⟩; obtain rfl : r = false := by (cases r; rfl; exact absurd (HL.out.1 (hr.out.1 rfl)).2 h2)))
      go_ret
      exact ⟨by simp; omega, b1.trans (b2.mono b1.size)⟩
  · go_enter Try.func4, Try.ntmps4
    go_wp2_with (first | (go_at_call 9; refine (HM w).mono ?_; rintro e w1 ⟨rfl, b1⟩) | (go_at_call 7; refine (zzis_any M w1).mono ?_; rintro e w2 ⟨r, hr, rfl, b2⟩; obtain rfl : r = false := by (cases r; rfl; exact absurd (HL.out.1 (hr.out.1 rfl)).1 h1)))
    go_ret
    exact ⟨rfl, b1.trans (b2.mono b1.size)⟩

theorem walk_every (y m : Int) (w : World) :
    Calls Try.prog 4 #[.int .i64 y, .int .i64 m] w fun e w' => e = .returned (.bool true) ∧ Below w.heap.size w w' := by
  by_cases h : y < 0 ∨ 9999 < y ∨ m < 0 ∨ 99 < m
  · exact every_out y m w h
  · obtain ⟨y', rfl⟩ : ∃ n : Nat, y = n := ⟨y.toNat, by omega⟩
    obtain ⟨m', rfl⟩ : ∃ n : Nat, m = n := ⟨m.toNat, by omega⟩
    exact every_in y' m' w (by omega) (by omega)

end Go.Proofs.Qxb6605273a
