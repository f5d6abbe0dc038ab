/-
  The walk of FnSummaryAnswersFacilityAndSeverityExactly (7), every input.
-/
import Derived.Test.Qxb6601108aSumTwo
import Derived.Test.Qxb6601108aSumThree
namespace Go.Proofs.Qxb6601108a
open Go.RowKit
set_option linter.unusedVariables false

set_option maxHeartbeats 400000 in
theorem sum_huge (kd n : Int) (a : Option Addr) (len cap : Nat) (F : List Int) (w : World) (hF : F.length = 64) (hl : ¬ len ≤ 1048576) (hm : len ≤ maxLen) :
    Calls Try.prog 7 #[.int .i64 kd, .int .i64 n, .slice a len cap, .agg (arr .u8 F)] w fun e w' => e = .returned (.bool true) ∧ Below w.heap.size w w' := by
  have HF : Hid (F.length = 64) := hF
  clear hF
  go_enter Try.func7, Try.ntmps7
  go_wp2_with (first | (go_at_call 22; refine (bytes_no _ _ _ _ _ _ _ hl hm).mono ?_; rintro e w1 ⟨rfl, hb1⟩) | (refine wpList_load_row rfl 44 _ rfl _ rfl _ _ _ _ (heap_alloc_new _ _) Try.underlying44 rfl (hi44 F HF.out) ?_))
  have hs1 := hb1.size
  simp at hs1
  go_ret
  exact ⟨rfl, ((Below.refl _ _).alloc (Nat.le_refl _) _).trans (hb1.mono (by simp))⟩

set_option maxHeartbeats 400000 in
theorem sum_long (kd n : Int) (a : Option Addr) (len cap : Nat) (F : List Int) (w : World) (hF : F.length = 64) (hl : len ≤ 1048576) (hl2 : ¬ len ≤ 65536) :
    Calls Try.prog 7 #[.int .i64 kd, .int .i64 n, .slice a len cap, .agg (arr .u8 F)] w fun e w' => e = .returned (.bool true) ∧ Below w.heap.size w w' := by
  have HF : Hid (F.length = 64) := hF
  clear hF
  go_enter Try.func7, Try.ntmps7
  go_wp2_with (first | (go_at_call 22; refine (bytes_yes _ _ _ _ _ _ _ (by omega)).mono ?_; rintro e w1 ⟨rfl, hb1⟩) | (refine wpList_load_row rfl 44 _ rfl _ rfl _ _ _ _ (heap_alloc_new _ _) Try.underlying44 rfl (hi44 F HF.out) ?_))
  have hs1 := hb1.size
  simp at hs1
  go_ret
  exact ⟨rfl, ((Below.refl _ _).alloc (Nat.le_refl _) _).trans (hb1.mono (by simp))⟩

set_option maxHeartbeats 400000 in
theorem sum_kind (kd n : Int) (a : Option Addr) (len cap : Nat) (F : List Int) (w : World) (hF : F.length = 64) (hl : len ≤ 65536) (h2 : (kd != 2) = true) (h3 : (kd != 3) = true) :
    Calls Try.prog 7 #[.int .i64 kd, .int .i64 n, .slice a len cap, .agg (arr .u8 F)] w fun e w' => e = .returned (.bool true) ∧ Below w.heap.size w w' := by
  have HF : Hid (F.length = 64) := hF
  clear hF
  go_enter Try.func7, Try.ntmps7
  go_wp2_with (first | (go_at_call 22; refine (bytes_yes _ _ _ _ _ _ _ (by omega)).mono ?_; rintro e w1 ⟨rfl, hb1⟩) | (refine wpList_load_row rfl 44 _ rfl _ rfl _ _ _ _ (heap_alloc_new _ _) Try.underlying44 rfl (hi44 F HF.out) ?_))
  have hs1 := hb1.size
  simp at hs1
  go_ret
  exact ⟨rfl, ((Below.refl _ _).alloc (Nat.le_refl _) _).trans (hb1.mono (by simp))⟩

set_option maxHeartbeats 400000 in
theorem sum_dom2 (kd n : Int) (a : Option Addr) (len cap : Nat) (F : List Int) (w : World) (hF : F.length = 64) (hl : len ≤ 65536) (h2 : kd = 2) (hd : Hid (domB kd n 0 0 0 0 = false)) :
    Calls Try.prog 7 #[.int .i64 kd, .int .i64 n, .slice a len cap, .agg (arr .u8 F)] w fun e w' => e = .returned (.bool true) ∧ Below w.heap.size w w' := by
  have HF : Hid (F.length = 64) := hF
  clear hF
  subst h2
  go_enter Try.func7, Try.ntmps7
  go_wp2_with (first | (go_at_call 22; refine (bytes_yes _ _ _ _ _ _ _ (by omega)).mono ?_; rintro e w1 ⟨rfl, hb1⟩) | (go_at_call 23; refine (dom_any _ _ _ _ _ _ _).mono ?_; rintro e w2 ⟨rfl, hb2⟩; rw [hd.out]) | (refine wpList_load_row rfl 44 _ rfl _ rfl _ _ _ _ (heap_alloc_new _ _) Try.underlying44 rfl (hi44 F HF.out) ?_))
  have hs1 := hb1.size
  simp at hs1
  go_ret
  exact ⟨rfl, (((Below.refl _ _).alloc (Nat.le_refl _) _).trans (hb1.mono (by simp))).trans (hb2.mono (by omega))⟩

set_option maxHeartbeats 400000 in
theorem sum_dom3 (kd n : Int) (a : Option Addr) (len cap : Nat) (F : List Int) (w : World) (hF : F.length = 64) (hl : len ≤ 65536) (h3 : kd = 3) (hd : Hid (domB kd n 0 0 0 0 = false)) :
    Calls Try.prog 7 #[.int .i64 kd, .int .i64 n, .slice a len cap, .agg (arr .u8 F)] w fun e w' => e = .returned (.bool true) ∧ Below w.heap.size w w' := by
  have HF : Hid (F.length = 64) := hF
  clear hF
  subst h3
  go_enter Try.func7, Try.ntmps7
  go_wp2_with (first | (go_at_call 22; refine (bytes_yes _ _ _ _ _ _ _ (by omega)).mono ?_; rintro e w1 ⟨rfl, hb1⟩) | (go_at_call 23; refine (dom_any _ _ _ _ _ _ _).mono ?_; rintro e w2 ⟨rfl, hb2⟩; rw [hd.out]) | (refine wpList_load_row rfl 44 _ rfl _ rfl _ _ _ _ (heap_alloc_new _ _) Try.underlying44 rfl (hi44 F HF.out) ?_))
  have hs1 := hb1.size
  simp at hs1
  go_ret
  exact ⟨rfl, (((Below.refl _ _).alloc (Nat.le_refl _) _).trans (hb1.mono (by simp))).trans (hb2.mono (by omega))⟩

theorem walk_sum (kd n : Int) (a : Option Addr) (len cap : Nat) (zs F : List Int) (w : World) (hn : a = none → len = 0 ∧ cap = 0) (hr : Reads .i64 w a len zs) (hlz : zs.length = len) (hm : len ≤ maxLen) (hF : F.length = 64) (hFb : ∀ i, 0 ≤ F.getD i 0 ∧ F.getD i 0 ≤ 255) :
    Calls Try.prog 7 #[.int .i64 kd, .int .i64 n, .slice a len cap, .agg (arr .u8 F)] w fun e w' => e = .returned (.bool true) ∧ Below w.heap.size w w' := by
  by_cases h1 : len ≤ 1048576
  · by_cases h2 : len ≤ 65536
    · by_cases k2 : kd = 2
      · cases hd : domB kd n 0 0 0 0
        · exact sum_dom2 kd n a len cap F w hF h2 k2 hd
        · subst k2; exact sum_two n a len cap zs F w hn hr hlz h2 hF hFb hd
      · by_cases k3 : kd = 3
        · cases hd : domB kd n 0 0 0 0
          · exact sum_dom3 kd n a len cap F w hF h2 k3 hd
          · subst k3; exact sum_three n a len cap zs F w hn hr hlz h2 hF hFb hd
        · exact sum_kind kd n a len cap F w hF h2 (by simpa using k2) (by simpa using k3)
    · exact sum_long kd n a len cap F w hF h1 h2
  · exact sum_huge kd n a len cap F w hF h1 hm

end Go.Proofs.Qxb6601108a
