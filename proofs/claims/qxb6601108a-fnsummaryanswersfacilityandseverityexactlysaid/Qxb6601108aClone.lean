/-
  A slice's clone (24), the powers of two (26), a priority split by search (25), the bound on lengths (22).
-/
import Derived.Test.Qxb6601108aMay
import Derived.Lib.SliceRun
import Derived.Deep.OwnRows
namespace Go.Proofs.Qxb6601108a
open Go.RowKit
set_option linter.unusedVariables false

/-- a row of a call's own: n cells of block g from its head on, none of them frozen -/
structure Own (B : Nat) (w : World) (g n : Nat) (f : Nat → Value) : Prop where
  lo : B ≤ g
  hi : g < w.heap.size
  cell : ∀ i, i < n → w.cell? ⟨g, i, none⟩ = some (f i)
  fz : ∀ i, w.frozen? ⟨g, i, none⟩ = false

theorem Own.on {B : Nat} {w w' : World} {g n : Nat} {f : Nat → Value} (h : Own B w g n f) (k : Below w.heap.size w w') : Own B w' g n f :=
  ⟨h.lo, Nat.lt_of_lt_of_le h.hi k.size, fun i hi => by rw [k.cell (show (⟨g, i, none⟩ : Addr).block < _ from h.hi)]; exact h.cell i hi, fun i => by rw [k.frozen (show (⟨g, i, none⟩ : Addr).block < _ from h.hi)]; exact h.fz i⟩

theorem Own.set {B : Nat} {w : World} {g n : Nat} {f : Nat → Value} (h : Own B w g n f) (k : Nat) (hk : k < n) (v : Value) : Own B (w.setCell ⟨g, k, none⟩ v) g n (fun i => if i = k then v else f i) := by
  refine ⟨h.lo, by simpa using h.hi, fun i hi => ?_, fun i => by rw [World.frozen?_setCell]; exact h.fz i⟩
  by_cases e : i = k
  · subst e
    rw [World.cell?_setCell_same _ _ _ (h.cell i hi), if_pos rfl]
  · rw [World.cell?_setCell_other _ _ _ _ (by simp <;> omega), if_neg e]
    exact h.cell i hi

theorem Own.congr {B : Nat} {w : World} {g n : Nat} {f f' : Nat → Value} (h : Own B w g n f) (e : ∀ i, i < n → f i = f' i) : Own B w g n f' :=
  ⟨h.lo, h.hi, fun i hi => by rw [← e i hi]; exact h.cell i hi, h.fz⟩

theorem own_made (w : World) (z : Value) (n : Nat) (e : TypeId) : Own w.heap.size (w.alloc (.cells (madeCells #[z] n) e)) w.heap.size n (fun _ => z) := by
  refine ⟨Nat.le_refl _, by simp, fun i hi => ?_, fun i => by simp⟩
  rw [World.cell?_alloc_at _ _ _ _ rfl]
  simp [madeCells, hi, Nat.mod_one]

/-- what a slice that came in reads as: its first n cells -/
def Reads (k : IntKind) (w : World) (a : Option Addr) (len : Nat) (zs : List Int) : Prop :=
  len = 0 ∨ ∃ b off, a = some ⟨b, off, none⟩ ∧ b < w.heap.size ∧ ∀ i, i < len → w.cell? ⟨b, off + i, none⟩ = some (.int k (zs.getD i 0))

theorem info3 : (Try.prog.info? 3).map (fun i => (i.zero, i.size, i.bytes)) = some (some (.int .i64 0), 1, 8) := by kernel_rfl

set_option maxHeartbeats 400000 in
theorem clone_nil (w : World) : Calls Try.prog 24 #[.slice none 0 0] w fun e w' => e = .returned (.slice none 0 0) ∧ w' = w := by
  have q43 := fun (w : World) (a : Option Addr) (n c n' c' : Nat) => Lib.run_eql_slice_nil (P := Try.prog) w 43 3 a n c n' c' Try.underlying43
  go_enter Try.func24, Try.ntmps24
  go_wp2
  go_ret
  exact ⟨rfl, rfl⟩

set_option maxHeartbeats 400000 in
theorem clone_some (x : Addr) (len cap : Nat) (zs : List Int) (w : World) (hl : len ≤ 1048576) (h : Reads .i64 w (some x) len zs) :
    Calls Try.prog 24 #[.slice (some x) len cap] w fun e w' => ∃ g, e = .returned (.slice (some ⟨g, 0, none⟩) len len) ∧ Below w.heap.size w w' ∧ Own w.heap.size w' g len (fun i => .int .i64 (zs.getD i 0)) := by
  have HR : Hid (Reads .i64 w (some x) len zs) := h
  clear h
  have q43 := fun (w : World) (a : Option Addr) (n c n' c' : Nat) => Lib.run_eql_slice_nil (P := Try.prog) w 43 3 a n c n' c' Try.underlying43
  have hmk := run_make_row' (P := Try.prog) 43 3 (.int .i64 0) 8 Try.underlying43 info3 rfl .i64 .i64 len (by omega) (by omega)
  go_enter Try.func24, Try.ntmps24
  go_wp2
  have O0 := own_made w (.int .i64 0) len 3
  clear q43 hmk
  go_loopw [4] (fun i wr => ∃ k : Nat, k ≤ len ∧ i = .int .i64 k ∧ Below w.heap.size w wr ∧ Own w.heap.size wr w.heap.size len (fun i => .int .i64 (if i < k then zs.getD i 0 else 0))) (fun i _ => len - (intOf i).toNat)
  case atStart => exact ⟨0, by omega, rfl, (Below.refl _ _).alloc (Nat.le_refl _) _, O0.congr (fun i _ => by simp)⟩
  case round =>
    clear O0
    obtain ⟨k, hk, rfl, hb, O⟩ := hrel
    by_cases hlt : k < len
    · have hc : ∃ b off, x = ⟨b, off, none⟩ ∧ wr.cell? ⟨b, off + k, none⟩ = some (.int .i64 (zs.getD k 0)) := by
        rcases HR.out with h | ⟨b, off, e, hbl, hcell⟩
        · omega
        · simp at e
          exact ⟨b, off, e, by rw [hb.cell (show (⟨b, off + k, none⟩ : Addr).block < _ from hbl)]; exact hcell k hlt⟩
      obtain ⟨b, off, rfl, hc⟩ := hc
      have hs := O.cell k hlt
      have hf := O.fz k
      go_wp2
      go_round
      case rel =>
        refine ⟨k + 1, by omega, by go_num, hb.setCell (Nat.le_refl _) _, (O.set k hlt _).congr (fun i _ => ?_)⟩
        by_cases e : i = k
        · subst e; simp
        · rw [if_neg e]
          have : (i < k + 1) = (i < k) := by rw [eq_iff_iff]; omega
          simp only [this]
      case measure => simp [intOf]; omega
    · go_wp2
      go_ret
      exact ⟨_, rfl, hb, O.congr (fun i hi => by rw [if_pos (by omega)])⟩

/-- the clone of whatever slice: nil or a row of the call's own -/
theorem clone_any (a : Option Addr) (len cap : Nat) (zs : List Int) (w : World) (hl : len ≤ 1048576) (hn : a = none → len = 0 ∧ cap = 0) (h : Reads .i64 w a len zs) :
    Calls Try.prog 24 #[.slice a len cap] w fun e w' => ∃ a', e = .returned (.slice a' len len) ∧ Below w.heap.size w w' ∧ (len = 0 ∨ ∃ g, a' = some ⟨g, 0, none⟩ ∧ Own w.heap.size w' g len (fun i => .int .i64 (zs.getD i 0))) := by
  cases a with
  | none =>
    obtain ⟨rfl, rfl⟩ := hn rfl
    refine (clone_nil w).mono ?_
    rintro e w' ⟨rfl, rfl⟩
    exact ⟨none, rfl, Below.refl _ _, .inl rfl⟩
  | some x =>
    refine (clone_some x len cap zs w hl h).mono ?_
    rintro e w' ⟨g, rfl, hb, O⟩
    exact ⟨some ⟨g, 0, none⟩, rfl, hb, .inr ⟨g, rfl, O⟩⟩

set_option maxHeartbeats 400000 in
theorem pow2_any (j : Nat) (w : World) (hj : j ≤ 7) : Calls Try.prog 26 #[.int .i64 j] w fun e w' => e = .returned (.int .u8 (2 ^ j)) ∧ w' = w := by
  go_enter Try.func26, Try.ntmps26
  go_wp2
  go_loop [3, 4] (fun v i => ∃ k : Nat, k ≤ j ∧ i = .int .i64 k ∧ v = .int .u8 (2 ^ k)) (fun _ i => j - (intOf i).toNat)
  case atStart => exact ⟨0, Nat.zero_le _, rfl, rfl⟩
  case round =>
    obtain ⟨k, hk, rfl, rfl⟩ := hrel
    have hp0 : (0 : Int) < 2 ^ k := Int.pow_pos (by omega)
    by_cases hlt : k < j
    · have hp : (2 : Int) ^ k ≤ 64 := by
        have h1 : (2 : Nat) ^ k ≤ 2 ^ 6 := Nat.pow_le_pow_right (by omega) (by omega)
        have h2 : ((2 ^ k : Nat) : Int) ≤ 64 := by omega
        simpa using h2
      go_wp2
      go_round
      case rel => exact ⟨k + 1, by omega, by go_num, by rw [Int.pow_succ]⟩
      case measure => simp [intOf]; omega
    · go_wp2
      go_ret
      have : k = j := by omega
      subst this
      exact ⟨rfl, rfl⟩

set_option maxHeartbeats 400000 in
theorem split_any (p : Int) (w : World) (h0 : 0 ≤ p) (h1 : p ≤ 191) : Calls Try.prog 25 #[.int .i64 p] w fun e w' => e = .returned (.tuple #[.int .i64 (p / 8), .int .i64 (p % 8)]) ∧ w' = w := by
  go_enter Try.func25, Try.ntmps25
  go_wp2
  go_loop [4, 5] (fun kk _ => ∃ k : Nat, k ≤ 24 ∧ kk = .int .i64 k ∧ 8 * (k : Int) ≤ p) (fun kk _ => 24 - (intOf kk).toNat)
  case atStart => exact ⟨0, by omega, rfl, by omega⟩
  case round =>
    obtain ⟨k, hk, rfl, hp⟩ := hrel
    have hlt : k < 24 := by omega
    have hltb : decide ((k : Int) < 24) = true := by simp; omega
    go_wp2
    go_loop [5] (fun ss => ∃ s : Nat, s ≤ 8 ∧ ss = .int .i64 s ∧ 8 * (k : Int) + s ≤ p) (fun ss => 8 - (intOf ss).toNat)
    case atStart => exact ⟨0, by omega, rfl, by omega⟩
    case round =>
      obtain ⟨s, hs, rfl, hps⟩ := hrel
      by_cases hs8 : s < 8
      · by_cases he : 8 * (k : Int) + s = p
        · have heb : (8 * (k : Int) + s == p) = true := by simpa using he
          have HE : Hid (8 * (k : Int) + s = p) := he
          clear he
          go_wp2
          go_ret2
          have := HE.out
          exact ⟨by rw [show p / 8 = (k : Int) by omega, show p % 8 = (s : Int) by omega]; rfl, rfl⟩
        · have heb : (8 * (k : Int) + s == p) = false := by simpa using he
          clear he
          go_wp2
          go_round
          case rel => exact ⟨s + 1, by omega, by go_num, by simp at heb; omega⟩
          case measure => simp [intOf]; omega
      · go_wp2
        go_round
        case rel => exact ⟨k + 1, by omega, by go_num, by omega⟩
        case measure => simp [intOf]; omega

set_option maxHeartbeats 400000 in
theorem bytes_yes (k n : Int) (a : Option Addr) (len cap : Nat) (F : List Int) (w : World) (hl : len ≤ 1048576) :
    Calls Try.prog 22 #[.int .i64 k, .int .i64 n, .slice a len cap, .agg (arr .u8 F)] w fun e w' => e = .returned (.bool true) ∧ Below w.heap.size w w' := by
  go_enter Try.func22, Try.ntmps22
  go_wp2
  go_ret
  exact ⟨rfl, (Below.refl _ _).alloc (Nat.le_refl _) _⟩

set_option maxHeartbeats 400000 in
theorem bytes_no (k n : Int) (a : Option Addr) (len cap : Nat) (F : List Int) (w : World) (hl : ¬ len ≤ 1048576) (hm : len ≤ maxLen) :
    Calls Try.prog 22 #[.int .i64 k, .int .i64 n, .slice a len cap, .agg (arr .u8 F)] w fun e w' => e = .returned (.bool false) ∧ Below w.heap.size w w' := by
  unfold maxLen at hm
  go_enter Try.func22, Try.ntmps22
  go_wp2
  go_ret
  exact ⟨rfl, (Below.refl _ _).alloc (Nat.le_refl _) _⟩

end Go.Proofs.Qxb6601108a
