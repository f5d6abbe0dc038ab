/-
  The law of a written day; the bound on lengths (10); FnDatedReadsWrittenDay (5) outside the range.
-/
import Derived.Test.Qxb6605273aDated
namespace Go.Proofs.Qxb6605273a
open Go.RowKit
set_option linter.unusedVariables false

/-! ### the law: a written day -/
theorem pad2_list (d : Nat) : padL d 2 = [dig (d / 10), dig d] := by simp [padL, List.range, List.range.loop]

theorem day_eq (y m d : Nat) : (⟨(monthL y m).toArray⟩ ++ ⟨#[45]⟩ ++ ⟨(padL d 2).toArray⟩ : ByteArray) = ⟨#[dig (y / 1000), dig (y / 100), dig (y / 10), dig y, 45, dig (m / 10), dig m, 45, dig (d / 10), dig d]⟩ := by
  rw [month_list, pad2_list]
  rfl

theorem dg_dig (n : Nat) : Dg (dig n).toNat := by rw [dig_nat]; unfold Dg; omega

theorem day_facts (y m d : Nat) (M D T : ByteArray) (hM : M = ⟨(monthL y m).toArray⟩) (hD : D = ⟨(padL d 2).toArray⟩) (hT : M ++ ⟨#[45]⟩ ++ D = T) :
    T.size = 10 ∧ Pat (at_ T) 10 ∧ T.extract 0 7 = M ∧ ∀ i, i < 7 → at_ T i = at_ M i := by
  subst hM hD
  rw [day_eq] at hT
  subst hT
  refine ⟨rfl, fun i hi => ?_, ?_, fun i hi => ?_⟩
  · obtain rfl | rfl | rfl | rfl | rfl | rfl | rfl | rfl | rfl | rfl : i = 0 ∨ i = 1 ∨ i = 2 ∨ i = 3 ∨ i = 4 ∨ i = 5 ∨ i = 6 ∨ i = 7 ∨ i = 8 ∨ i = 9 := by omega
    all_goals first
      | exact ⟨fun h => by omega, fun _ _ => dg_dig _⟩
      | exact ⟨fun _ => rfl, fun h1 h2 => absurd rfl h1⟩
      | exact ⟨fun _ => rfl, fun h1 h2 => absurd rfl h2⟩
  · rw [month_list]
    rfl
  · rw [month_list]
    obtain rfl | rfl | rfl | rfl | rfl | rfl | rfl : i = 0 ∨ i = 1 ∨ i = 2 ∨ i = 3 ∨ i = 4 ∨ i = 5 ∨ i = 6 := by omega
    all_goals rfl

theorem bytes10 (y m d : Int) (a : Option Addr) (n cap : Nat) (w : World) (hs : n ≤ maxLen) : Calls Try.prog 10 #[.int .i64 y, .int .i64 m, .int .i64 d, .slice a n cap] w fun e w' => (e = .returned (.bool false) ∨ e = .returned (.bool true) ∧ n ≤ 1048576) ∧ w' = w := by
  have hm : maxLen = 9223372036854775807 := rfl
  rw [hm] at hs
  by_cases h : n ≤ 1048576
  · go_enter Try.func10, Try.ntmps10
    go_wp2
    go_ret
    exact ⟨.inr ⟨rfl, h⟩, rfl⟩
  · go_enter Try.func10, Try.ntmps10
    go_wp2
    go_ret
    exact ⟨.inl rfl, rfl⟩

set_option maxHeartbeats 400000 in
theorem day_out (y m d : Int) (a : Option Addr) (n cap : Nat) (w : World) (hs : n ≤ maxLen) (h : y < 0 ∨ 9999 < y ∨ m < 0 ∨ 99 < m ∨ d < 0 ∨ 99 < d) :
    Calls Try.prog 5 #[.int .i64 y, .int .i64 m, .int .i64 d, .slice a n cap] w fun e w' => e = .returned (.bool true) ∧ Below w.heap.size w w' := by
  have HS : Hid (n ≤ maxLen) := hs
  clear hs
  have C := bytes10 y m d a n cap w HS.out
  go_enter Try.func5, Try.ntmps5
  go_wp2_with fail
  refine C.mono ?_
  clear C
  rintro e w' ⟨(rfl | ⟨rfl, hsz⟩), rfl⟩
  · go_wp2
    go_ret
    exact ⟨rfl, Below.refl _ _⟩
  by_cases h1 : y < 0
  · clear h
    go_wp2
    go_ret
    exact ⟨rfl, Below.refl _ _⟩
  by_cases h2 : 9999 < y
  · clear h
    go_wp2
    go_ret
    exact ⟨rfl, Below.refl _ _⟩
  by_cases h3 : m < 0
  · clear h
    go_wp2
    go_ret
    exact ⟨rfl, Below.refl _ _⟩
  by_cases h4 : 99 < m
  · clear h
    go_wp2
    go_ret
    exact ⟨rfl, Below.refl _ _⟩
  by_cases h5 : d < 0
  · clear h
    go_wp2
    go_ret
    exact ⟨rfl, Below.refl _ _⟩
  have h6 : 99 < d := by omega
  clear h
  go_wp2
  go_ret
  exact ⟨rfl, Below.refl _ _⟩
end Go.Proofs.Qxb6605273a
