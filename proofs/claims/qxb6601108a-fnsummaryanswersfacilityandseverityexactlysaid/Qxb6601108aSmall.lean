/-
  Contracts of the small functions of package attr and of the laws' own helpers: validPriority (19), ZZQuery (20), Facility (30), Severity (31), zzBit (28), Matches (21) at a facility and at a severity query.
-/
import Derived.Test.Qxb6601108aRows
import Derived.WalkKit
import Derived.WalkSpells
import Derived.WalkLawsBesides
import Derived.BigQuiet
import Derived.Deep.QuietTactic
import Derived.Deep.RegionWith
namespace Go.Proofs.Qxb6601108a
open Go.RowKit

def validB (p : Int) : Bool := decide (p = -1 ∨ (0 ≤ p ∧ p ≤ 191))

set_option maxHeartbeats 400000 in
theorem valid_any (p : Int) (w : World) :
    Calls Try.prog 19 #[.int .i64 p] w fun e w' => e = .returned (.bool (validB p)) ∧ w' = w := by
  have key : validB p = decide (p = -1 ∨ (0 ≤ p ∧ p ≤ 191)) := rfl
  by_cases h1 : p = -1
  · subst h1
    go_enter Try.func19, Try.ntmps19
    go_wp2
    go_ret
    exact ⟨rfl, rfl⟩
  · have h1b : (p == -1) = false := by simpa using h1
    by_cases h2 : 0 ≤ p
    · by_cases h3 : p ≤ 191
      · rw [show validB p = true by simp [validB]; omega]
        clear key h1
        go_enter Try.func19, Try.ntmps19
        go_wp2
        go_ret
        exact ⟨rfl, rfl⟩
      · rw [show validB p = false by simp [validB]; omega]
        clear key h1
        go_enter Try.func19, Try.ntmps19
        go_wp2
        go_ret
        exact ⟨rfl, rfl⟩
    · rw [show validB p = false by simp [validB]; omega]
      clear key h1
      go_enter Try.func19, Try.ntmps19
      go_wp2
      go_ret
      exact ⟨rfl, rfl⟩


set_option maxHeartbeats 400000 in
theorem zzq_any (k n : Int) (s : ByteArray) (p0 p1 p2 p3 : Int) (w : World) :
    Calls Try.prog 20 #[.int .i64 k, .string s, .int .i64 n, .agg #[.int .u16 p0, .int .u16 p1, .int .u16 p2, .int .u16 p3]] w fun e w' => e = .returned (.agg #[.int .i64 k, .string s, .int .i64 n, .int .u16 p0, .int .u16 p1, .int .u16 p2, .int .u16 p3]) ∧ Below w.heap.size w w' := by
  go_enter Try.func20, Try.ntmps20
  go_wp2
  exact bodyPost_ret (v := .agg #[.int .i64 k, .string s, .int .i64 n, .int .u16 p0, .int .u16 p1, .int .u16 p2, .int .u16 p3]) (by simp [results, Try.results20, go_sem]) rfl ⟨rfl, ((Below.refl _ _).alloc (Nat.le_refl _) _).alloc (by simp) _⟩

def facB (p : Int) : Int := if p = -1 then -1 else p / 8
def sevB (p : Int) : Int := if p = -1 then -1 else p % 8

set_option maxHeartbeats 400000 in
theorem fac_any (p : Int) (a b : Value) (w : World) (h : -1 ≤ p) (h2 : p ≤ 191) :
    Calls Try.prog 30 #[.agg #[.int .i64 p, a, b]] w fun e w' => e = .returned (.int .i64 (facB p)) ∧ Below w.heap.size w w' := by
  by_cases h1 : p = -1
  · subst h1
    go_enter Try.func30, Try.ntmps30
    go_wp2
    go_ret
    exact ⟨rfl, (Below.refl _ _).alloc (Nat.le_refl _) _⟩
  · have h1b : (p == -1) = false := by simpa using h1
    have h0 : 0 ≤ p := by omega
    have e : facB p = p / 8 := by simp [facB, h1]
    rw [e]
    clear h h1 e
    go_enter Try.func30, Try.ntmps30
    go_wp2
    go_ret
    exact ⟨rfl, (Below.refl _ _).alloc (Nat.le_refl _) _⟩

set_option maxHeartbeats 400000 in
theorem sev_any (p : Int) (a b : Value) (w : World) (h : -1 ≤ p) (h2 : p ≤ 191) :
    Calls Try.prog 31 #[.agg #[.int .i64 p, a, b]] w fun e w' => e = .returned (.int .i64 (sevB p)) ∧ Below w.heap.size w w' := by
  by_cases h1 : p = -1
  · subst h1
    go_enter Try.func31, Try.ntmps31
    go_wp2
    go_ret
    exact ⟨rfl, (Below.refl _ _).alloc (Nat.le_refl _) _⟩
  · have h1b : (p == -1) = false := by simpa using h1
    have h0 : 0 ≤ p := by omega
    have e : sevB p = p % 8 := by simp [sevB, h1]
    rw [e]
    clear h h1 e
    go_enter Try.func31, Try.ntmps31
    go_wp2
    go_ret
    exact ⟨rfl, (Below.refl _ _).alloc (Nat.le_refl _) _⟩

def bitB (b : Int) (j : Nat) : Bool := b / 2 ^ j % 2 == 1

set_option maxHeartbeats 400000 in
theorem bit_any (b : Int) (j : Nat) (w : World) (h0 : 0 ≤ b) (h1 : b ≤ 255) (hj : j ≤ 8) :
    Calls Try.prog 28 #[.int .u8 b, .int .i64 j] w fun e w' => e = .returned (.bool (bitB b j)) ∧ w' = w := by
  go_enter Try.func28, Try.ntmps28
  go_wp2
  go_loop [0, 5] (fun x i => ∃ k : Nat, k ≤ j ∧ i = .int .i64 k ∧ x = .int .u8 (b / 2 ^ k)) (fun _ i => j - (intOf i).toNat)
  case atStart => exact ⟨0, Nat.zero_le _, rfl, by simp⟩
  case round =>
    obtain ⟨k, hk, rfl, rfl⟩ := hrel
    have hp : 0 ≤ b / 2 ^ k := Int.ediv_nonneg h0 (by exact Int.pow_nonneg (by omega))
    have hp2 : b / 2 ^ k ≤ 255 := Int.le_trans (Int.ediv_le_self _ h0) h1
    by_cases hlt : k < j
    · go_wp2
      go_round
      case rel => exact ⟨k + 1, by omega, by go_num, by rw [Int.pow_succ, ← Int.ediv_ediv_of_nonneg (Int.pow_nonneg (by omega))]⟩
      case measure => simp [intOf]; omega
    · go_wp2
      go_ret
      have : k = j := by omega
      subst this
      exact ⟨rfl, rfl⟩

theorem bcell {W w1 : World} (hb : Below W.heap.size W w1) : (∀ b o, b < W.heap.size → w1.cell? ⟨b, o, none⟩ = W.cell? ⟨b, o, none⟩) ∧ (∀ b o, b < W.heap.size → w1.frozen? ⟨b, o, none⟩ = W.frozen? ⟨b, o, none⟩) :=
  ⟨fun b o h => hb.cell (p := ⟨b, o, none⟩) h, fun b o h => hb.frozen (p := ⟨b, o, none⟩) h⟩

/-- two boxes, a draw, a callee -/
theorem below_2d {w w' : World} {o1 o2 : Obj} (hb : Below ((w.alloc o1).alloc o2).drew.heap.size ((w.alloc o1).alloc o2).drew w') : Below w.heap.size w w' :=
  ((((Below.refl _ _).alloc (Nat.le_refl _) o1).alloc (by simp) o2).drew).trans (hb.mono (by simp; omega))

set_option maxHeartbeats 400000 in
theorem matches_fac (p n : Int) (s : ByteArray) (p0 p1 p2 p3 : Int) (w : World) (h : -1 ≤ p) (h2 : p ≤ 191) :
    Calls Try.prog 21 #[.agg #[.int .i64 2, .string s, .int .i64 n, .int .u16 p0, .int .u16 p1, .int .u16 p2, .int .u16 p3], .agg #[.int .i64 p, .slice none 0 0, .slice none 0 0]] w fun e w' => e = .returned (.bool (facB p == n)) ∧ Below w.heap.size w w' := by
  go_enter Try.func21, Try.ntmps21
  go_wp2
  go_region_with (go_at_call 30; refine (fac_any _ _ _ _ h h2).mono ?_; rintro e w' ⟨rfl, hb⟩; obtain ⟨hc, hf⟩ := bcell hb)
  all_goals
    go_wp2
    go_ret
    exact ⟨rfl, below_2d hb⟩

def mSev (p n : Int) : Bool := decide (p ≠ -1 ∧ p % 8 ≤ n)

set_option maxHeartbeats 400000 in
theorem matches_sev (p n : Int) (s : ByteArray) (p0 p1 p2 p3 : Int) (w : World) (h : -1 ≤ p) (h2 : p ≤ 191) :
    Calls Try.prog 21 #[.agg #[.int .i64 3, .string s, .int .i64 n, .int .u16 p0, .int .u16 p1, .int .u16 p2, .int .u16 p3], .agg #[.int .i64 p, .slice none 0 0, .slice none 0 0]] w fun e w' => e = .returned (.bool (mSev p n)) ∧ Below w.heap.size w w' := by
  by_cases h1 : p = -1
  · subst h1
    have hd : ((-1 : Int) != -1) = false := by decide
    have e : mSev (-1) n = false := by simp [mSev]
    rw [e]
    clear e
    go_enter Try.func21, Try.ntmps21
    go_wp2
    go_quiet (fail)
    go_wp2
    go_ret
    exact ⟨rfl, by repeat (first | exact Below.refl _ _ | exact (((Below.refl _ _).alloc (Nat.le_refl _) _).alloc (by simp) _) | apply below_drewN)⟩
  · have h1b : (p != -1) = true := by simpa using h1
    have e : mSev p n = decide (sevB p ≤ n) := by simp [mSev, sevB, h1]
    rw [e]
    clear e h1
    go_enter Try.func21, Try.ntmps21
    go_wp2
    go_region_with (go_at_call 31; refine (sev_any _ _ _ _ h h2).mono ?_; rintro e w' ⟨rfl, hb⟩; obtain ⟨hc, hf⟩ := bcell hb)
    all_goals
      go_wp2
      go_ret
      exact ⟨rfl, below_2d hb⟩

end Go.Proofs.Qxb6601108a
