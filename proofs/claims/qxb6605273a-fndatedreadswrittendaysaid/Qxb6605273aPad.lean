/-
  Numbers written in decimal digits: padDigits (12), monthText (9), digitValue (16).
-/
import Derived.Test.Qxb6605273aRows
import Derived.WalkKit
import Derived.Below
import Derived.Lib.SliceRun
import Derived.Lib.ConvBytes
import Derived.Deep.OwnRows
import Derived.WalkLawsBesides
namespace Go.Proofs.Qxb6605273a
open Go.RowKit
set_option linter.unusedVariables false

/-- an equation the walk shall not see -/
def Hid (p : Prop) : Prop := p
theorem Hid.out {p : Prop} (h : Hid p) : p := h

/-- a row of bytes of a call's own -/
structure OwnB (w : World) (g n : Nat) (f : Nat → Nat) : Prop where
  hi : g < w.heap.size
  cell : ∀ i, i < n → w.cell? ⟨g, i, none⟩ = some (.int .u8 (f i : Int))
  fz : ∀ i, i < n → w.frozen? ⟨g, i, none⟩ = false

theorem OwnB.set {w : World} {g n : Nat} {f : Nat → Nat} (h : OwnB w g n f) (k x : Nat) (hk : k < n) : OwnB (w.setCell ⟨g, k, none⟩ (.int .u8 (x : Int))) g n (fun i => if i = k then x else f i) := by
  refine ⟨by simpa using h.hi, fun i hi => ?_, fun i hi => by rw [World.frozen?_setCell]; exact h.fz i hi⟩
  by_cases e : i = k
  · subst e
    rw [World.cell?_setCell_same _ _ _ (h.cell i hi), if_pos rfl]
  · rw [World.cell?_setCell_other _ _ _ _ (by simp <;> omega), if_neg e]
    exact h.cell i hi

theorem OwnB.congr {w : World} {g n : Nat} {f f' : Nat → Nat} (h : OwnB w g n f) (e : ∀ i, i < n → f i = f' i) : OwnB w g n f' :=
  ⟨h.hi, fun i hi => by rw [← e i hi]; exact h.cell i hi, h.fz⟩

theorem OwnB.on {w w' : World} {g n : Nat} {f : Nat → Nat} (h : OwnB w g n f) (k : Below w.heap.size w w') : OwnB w' g n f :=
  ⟨Nat.lt_of_lt_of_le h.hi k.size, fun i hi => by rw [k.cell (show (⟨g, i, none⟩ : Addr).block < _ from h.hi)]; exact h.cell i hi, fun i hi => by rw [k.frozen (show (⟨g, i, none⟩ : Addr).block < _ from h.hi)]; exact h.fz i hi⟩

theorem ownB_made (w : World) (n : Nat) (e : TypeId) : OwnB (w.alloc (.cells (madeCells #[.int .u8 0] n) e)) w.heap.size n (fun _ => 0) := by
  refine ⟨by simp, fun i hi => ?_, fun i hi => by simp⟩
  rw [World.cell?_alloc_at _ _ _ _ rfl]
  simp [madeCells, hi, Nat.mod_one]

theorem ownB_bytes (w : World) (s : ByteArray) : OwnB (Lib.bytesWorld w 5 s) w.heap.size s.size (fun i => (s.data.toList.getD i 0).toNat) := by
  refine ⟨by rw [Lib.bytesWorld_size]; omega, fun i hi => Lib.bytesWorld_cell w 5 s i hi, fun i hi => ?_⟩
  have hsz : s.size ≤ (Lib.bytesCells w 5 s).size := by simp [Lib.bytesCells]
  simp [World.frozen?, Lib.bytesWorld_at_new]
  omega

theorem bytes_below (w : World) (s : ByteArray) : Below w.heap.size w (Lib.bytesWorld w 5 s) :=
  ⟨rfl, rfl, rfl, by rw [Lib.bytesWorld_size]; omega, fun k hk => Lib.bytesWorld_at_old w 5 s k hk⟩

theorem info5 : (Try.prog.info? 5).map (fun i => (i.zero, i.size, i.bytes)) = some (some (.int .u8 0), 1, 1) := by kernel_rfl

/-- the last decimal digit, as a byte -/
def dig (n : Nat) : UInt8 := UInt8.ofNat (48 + n % 10)
theorem dig_nat (n : Nat) : (dig n).toNat = 48 + n % 10 := by
  unfold dig
  simp
  omega
/-- v in w decimal digits -/
def padL (v w : Nat) : List UInt8 := (List.range w).map (fun i => dig (v / 10 ^ (w - 1 - i)))

/-! ### digitValue (16) -/
def dv (c : Nat) : Nat := if 48 ≤ c ∧ c ≤ 57 then c - 48 else 0

theorem digit_any (c : Nat) (w : World) (hc : c < 256) : Calls Try.prog 16 #[.int .u8 c] w fun e w' => e = .returned (.int .i64 (dv c)) ∧ w' = w := by
  by_cases h1 : 48 ≤ c
  · by_cases h2 : c ≤ 57
    · have HE : Hid (dv c = c - 48) := if_pos ⟨h1, h2⟩
      go_enter Try.func16, Try.ntmps16
      go_wp2
      go_ret
      refine ⟨?_, rfl⟩
      rw [HE.out]
      go_num
    · have HE : Hid (dv c = 0) := if_neg (by omega)
      go_enter Try.func16, Try.ntmps16
      go_wp2
      go_ret
      rw [HE.out]
      exact ⟨rfl, rfl⟩
  · have HE : Hid (dv c = 0) := if_neg (by omega)
    go_enter Try.func16, Try.ntmps16
    go_wp2
    go_ret
    rw [HE.out]
    exact ⟨rfl, rfl⟩

/-! ### padDigits (12) -/
set_option maxHeartbeats 400000 in
theorem pad_any (v n : Nat) (w : World) (hv : v ≤ 9999) (hn : n ≤ 4) :
    Calls Try.prog 12 #[.int .i64 v, .int .i64 n] w fun e w' => e = .returned (.string ⟨(padL v n).toArray⟩) ∧ Below w.heap.size w w' := by
  have hmk := run_make_row' (P := Try.prog) 25 5 (.int .u8 0) 1 Try.underlying25 info5 rfl .i64 .i64 n (by omega) (by omega)
  go_enter Try.func12, Try.ntmps12
  go_wp2
  have O0 := ownB_made w n 5
  clear hmk
  go_loopw [0, 6] (fun vv i wr => ∃ k : Nat, k ≤ n ∧ i = .int .i64 ((k : Int) - 1) ∧ vv = .int .i64 (v / 10 ^ (n - k) : Nat) ∧ Below w.heap.size w wr ∧ OwnB wr w.heap.size n (fun i => if k ≤ i then 48 + v / 10 ^ (n - 1 - i) % 10 else 0)) (fun _ i _ => ((intOf i) + 1).toNat)
  case atStart => exact ⟨n, by omega, by go_num, by simp, (Below.refl _ _).alloc (Nat.le_refl _) _, O0.congr (fun i hi => by rw [if_neg (by omega)])⟩
  case round =>
    clear O0
    obtain ⟨k, hk, rfl, rfl, hb, O⟩ := hrel
    cases k with
    | zero =>
      have hback : (convert 25 9 (.slice (some ⟨w.heap.size, 0, none⟩) n n)).run Try.prog wr = .ok (.string ⟨(padL v n).toArray⟩) wr := by
        have hl : (padL v n).length = n := by simp [padL]
        have := run_convert_bytes_back (P := Try.prog) wr 25 9 5 ⟨w.heap.size, 0, none⟩ n (padL v n) Try.underlying25 Try.underlying5 Try.underlying9 (fun j hj => by
          rw [Go.WideShapes.add_plain, Nat.zero_add, O.cell j (by omega), if_pos (by omega)]
          simp [padL, dig_nat])
        rw [hl] at this
        exact this
      go_wp2
      go_ret
      exact ⟨rfl, hb⟩
    | succ k =>
      have hx : v / 10 ^ (n - (k + 1)) ≤ 9999 := Nat.le_trans (Nat.div_le_self _ _) hv
      have HX : Hid (v / 10 ^ (n - k) = v / 10 ^ (n - (k + 1)) / 10) := by
        show _ = _
        rw [Nat.div_div_eq_div_mul, ← Nat.pow_succ]
        congr 2
        omega
      have HS := O.set k (48 + v / 10 ^ (n - (k + 1)) % 10) (by omega)
      have hc := O.cell k (by omega)
      have hf := O.fz k (by omega)
      have HS' : Hid (OwnB (wr.setCell ⟨w.heap.size, k, none⟩ (.int .u8 ((48 + v / 10 ^ (n - (k + 1)) % 10 : Nat) : Int))) w.heap.size n (fun i => if k ≤ i then 48 + v / 10 ^ (n - 1 - i) % 10 else 0)) := by
        refine HS.congr (fun i hi => ?_)
        by_cases e : i = k
        · subst e
          rw [if_pos rfl, if_pos (Nat.le_refl _)]
          congr 4
          omega
        · rw [if_neg e]
          have : (k ≤ i) = (k + 1 ≤ i) := by rw [eq_iff_iff]; omega
          simp only [this]
      clear HS
      generalize v / 10 ^ (n - (k + 1)) = x at *
      have e1 : ((k + 1 : Nat) : Int) - 1 = (k : Int) := by omega
      rw [e1]
      have t1 : Int.tmod (x : Int) 10 = ((x % 10 : Nat) : Int) := by rw [Int.tmod_eq_emod_of_nonneg (by omega)]; omega
      have t2 : Int.tdiv (x : Int) 10 = ((x / 10 : Nat) : Int) := by rw [Int.tdiv_eq_ediv_of_nonneg (by omega)]; omega
      go_wp2
      go_roundw
      case rel =>
        refine ⟨k, by omega, by go_num, by rw [HX.out]; go_num, hb.setCell (Nat.le_refl _) _, ?_⟩
        exact HS'.out
      case measure => simp [intOf]

theorem pad_ex (v n : Nat) (w : World) (hv : v ≤ 9999) (hn : n ≤ 4) :
    Calls Try.prog 12 #[.int .i64 v, .int .i64 n] w fun e w' => ∃ A : ByteArray, Hid (A = ⟨(padL v n).toArray⟩) ∧ A.size = n ∧ e = .returned (.string A) ∧ Below w.heap.size w w' := by
  refine (pad_any v n w hv hn).mono ?_
  rintro e w' ⟨rfl, hb⟩
  exact ⟨_, rfl, by simp [ByteArray.size, padL], rfl, hb⟩

/-! ### monthText (9) -/
def monthL (y m : Nat) : List UInt8 := padL y 4 ++ [45] ++ padL m 2

set_option maxHeartbeats 400000 in
theorem month_any (y m : Nat) (w : World) (hy : y ≤ 9999) (hm : m ≤ 99) :
    Calls Try.prog 9 #[.int .i64 y, .int .i64 m] w fun e w' => e = .returned (.string ⟨(monthL y m).toArray⟩) ∧ Below w.heap.size w w' := by
  generalize hM : (⟨(monthL y m).toArray⟩ : ByteArray) = M
  have HM : Hid ((⟨(monthL y m).toArray⟩ : ByteArray) = M) := hM
  clear hM
  go_enter Try.func9, Try.ntmps9
  go_wp2_with (first | (go_at_call 12; refine (pad_ex m 2 w1 (by omega) (by omega)).mono ?_; rintro e w2 ⟨B, hB, sB, rfl, b2⟩) | (go_at_call 12; refine (pad_ex y 4 w hy (by omega)).mono ?_; rintro e w1 ⟨A, hA, sA, rfl, b1⟩))
  go_ret
  refine ⟨?_, b1.trans (b2.mono b1.size)⟩
  rw [← HM.out, hA.out, hB.out]
  congr 2

end Go.Proofs.Qxb6605273a
