/-
  What slices and tokens read as; the copies (9, 10), the tokens (19), the token tests (26, 21, 34, 27).
-/
import Derived.Test.Qxb6605218aRows
import Derived.WalkKit
import Derived.WalkSpells
import Derived.WalkLawsBesides
import Derived.BigQuiet
import Derived.Deep.QuietTactic
import Derived.Deep.RegionWith
import Derived.Lib.QuietBelow
import Derived.Lib.SliceRun
import Derived.Deep.OwnRows
namespace Go.Proofs.Qxb6605218a
open Go.RowKit
set_option linter.unusedVariables false

/-- what a slice reads as: its first n elements, of one cell each -/
def SV (w : World) (a : Option Addr) (n : Nat) (f : Nat → Value) : Prop :=
  n = 0 ∨ ∃ b off, a = some ⟨b, off, none⟩ ∧ b < w.heap.size ∧ ∀ i, i < n → w.cell? ⟨b, off + i, none⟩ = some (f i)

theorem SV.on {w w' : World} {a : Option Addr} {n : Nat} {f : Nat → Value} (h : SV w a n f) (k : Below w.heap.size w w') : SV w' a n f := by
  rcases h with h | ⟨b, off, e, hb, hc⟩
  · exact .inl h
  · exact .inr ⟨b, off, e, Nat.lt_of_lt_of_le hb k.size, fun i hi => by rw [k.cell (show (⟨b, off + i, none⟩ : Addr).block < _ from hb)]; exact hc i hi⟩

theorem SV.at {w : World} {a : Option Addr} {n : Nat} {f : Nat → Value} (h : SV w a n f) (i : Nat) (hi : i < n) : ∃ b off, a = some ⟨b, off, none⟩ ∧ w.cell? ⟨b, off + i, none⟩ = some (f i) := by
  rcases h with h | ⟨b, off, e, _, hc⟩
  · omega
  · exact ⟨b, off, e, hc i hi⟩

/-- ints, strings as cells -/
def iv (ks : List Int) (i : Nat) : Value := .int .i64 (ks.getD i 0)
def sv (ts : List ByteArray) (i : Nat) : Value := .string (ts.getD i ByteArray.empty)

/-- the token at p is of this kind -/
def kindB (ks : List Int) (p : Int) (kind : Int) : Bool := decide (0 ≤ p ∧ p < ks.length) && ks.getD p.toNat 0 == kind
/-- .. is this mark -/
def markB (ks : List Int) (ts : List ByteArray) (p : Int) (m : ByteArray) : Bool := kindB ks p 4 && (ts.getD p.toNat ByteArray.empty).toList == m.toList

set_option maxHeartbeats 400000 in
theorem kind_any (ks : List Int) (a : Option Addr) (n cap : Nat) (p kind : Int) (w : World) (hn : ks.length = n) (hm : n ≤ 1048576) (V : SV w a n (iv ks)) :
    Calls Try.prog 26 #[.slice a n cap, .int .i64 p, .int .i64 kind] w fun e w' => e = .returned (.bool (kindB ks p kind)) ∧ w' = w := by
  by_cases h0 : 0 ≤ p
  · by_cases h1 : p < n
    · obtain ⟨b, off, rfl, hc⟩ := V.at p.toNat (by omega)
      have e : kindB ks p kind = (ks.getD p.toNat 0 == kind) := by simp [kindB, hn, h0, h1]
      rw [e]
      unfold iv at hc
      generalize ks.getD p.toNat 0 = x at *
      clear V e hn
      go_enter Try.func26, Try.ntmps26
      go_wp2
      go_ret
      exact ⟨rfl, rfl⟩
    · have e : kindB ks p kind = false := by simp [kindB, hn, h1]
      rw [e]
      clear V e hn
      go_enter Try.func26, Try.ntmps26
      go_wp2
      go_ret
      exact ⟨rfl, rfl⟩
  · have e : kindB ks p kind = false := by simp [kindB, h0]
    rw [e]
    clear V e hn
    go_enter Try.func26, Try.ntmps26
    go_wp2
    go_ret
    exact ⟨rfl, rfl⟩

set_option maxHeartbeats 400000 in
theorem mark_any (ks : List Int) (ts : List ByteArray) (a a2 : Option Addr) (n cap cap2 : Nat) (p : Int) (m : ByteArray) (w : World) (hn : ks.length = n) (hm : n ≤ 1048576) (V : SV w a n (iv ks)) (V2 : SV w a2 n (sv ts)) :
    Calls Try.prog 21 #[.slice a n cap, .slice a2 n cap2, .int .i64 p, .string m] w fun e w' => e = .returned (.bool (markB ks ts p m)) ∧ w' = w := by
  have HV : Hid (SV w a n (iv ks)) := V
  have HL : Hid (ks.length = n) := hn
  cases hk : kindB ks p 4
  · have HK : Hid (kindB ks p 4 = false) := hk
    have e : markB ks ts p m = false := by simp [markB, hk]
    rw [e]
    clear hk V V2 hn e
    go_enter Try.func21, Try.ntmps21
    go_wp2_with (go_at_call 26; refine (kind_any ks _ _ _ _ _ _ HL.out hm HV.out).mono ?_; rintro e w ⟨rfl, rfl⟩; rw [HK.out])
    go_ret
    exact ⟨rfl, rfl⟩
  · have HK : Hid (kindB ks p 4 = true) := hk
    have e : markB ks ts p m = ((ts.getD p.toNat ByteArray.empty).toList == m.toList) := by simp [markB, hk]
    rw [e]
    have hp : 0 ≤ p ∧ p < n := by
      have := hk
      simp [kindB, hn] at this
      omega
    obtain ⟨h0, h1⟩ := hp
    obtain ⟨b, off, rfl, hc⟩ := V2.at p.toNat (by omega)
    unfold sv at hc
    generalize ts.getD p.toNat ByteArray.empty = x at *
    clear hk V V2 hn e
    go_enter Try.func21, Try.ntmps21
    go_wp2_with (go_at_call 26; refine (kind_any ks _ _ _ _ _ _ HL.out hm HV.out).mono ?_; rintro e w ⟨rfl, rfl⟩; rw [HK.out])
    go_ret
    exact ⟨rfl, rfl⟩

set_option maxHeartbeats 400000 in
theorem is_punct (k : Int) (t s : ByteArray) (w : World) :
    Calls Try.prog 34 #[.agg #[.int .i64 k, .string t], .int .i64 4, .string s] w fun e w' => e = .returned (.bool (k == 4 && t.toList == s.toList)) ∧ Below w.heap.size w w' := by
  cases hk : k == 4
  · rw [Bool.false_and]
    go_enter Try.func34, Try.ntmps34
    go_wp2
    go_ret
    exact ⟨rfl, (Below.refl _ _).alloc (Nat.le_refl _) _⟩
  · rw [Bool.true_and]
    go_enter Try.func34, Try.ntmps34
    go_wp2
    go_ret
    exact ⟨rfl, (Below.refl _ _).alloc (Nat.le_refl _) _⟩

/-- the tokens: element i in the cells 2 i and 2 i + 1 of block g -/
def TV (w : World) (a : Option Addr) (n : Nat) (ks : List Int) (ts : List ByteArray) : Prop :=
  n = 0 ∨ ∃ g, a = some ⟨g, 0, none⟩ ∧ g < w.heap.size ∧ ∀ i, i < n → w.cell? ⟨g, i * 2, none⟩ = some (iv ks i) ∧ w.cell? ⟨g, i * 2 + 1, none⟩ = some (sv ts i)

theorem TV.on {w w' : World} {a : Option Addr} {n : Nat} {ks : List Int} {ts : List ByteArray} (h : TV w a n ks ts) (k : Below w.heap.size w w') : TV w' a n ks ts := by
  rcases h with h | ⟨g, e, hb, hc⟩
  · exact .inl h
  · refine .inr ⟨g, e, Nat.lt_of_lt_of_le hb k.size, fun i hi => ?_⟩
    rw [k.cell (show (⟨g, i * 2, none⟩ : Addr).block < _ from hb), k.cell (show (⟨g, i * 2 + 1, none⟩ : Addr).block < _ from hb)]; exact hc i hi

theorem TV.at {w : World} {a : Option Addr} {n : Nat} {ks : List Int} {ts : List ByteArray} (h : TV w a n ks ts) (i : Nat) (hi : i < n) : ∃ g, a = some ⟨g, 0, none⟩ ∧ g < w.heap.size ∧ w.cell? ⟨g, i * 2, none⟩ = some (iv ks i) ∧ w.cell? ⟨g, i * 2 + 1, none⟩ = some (sv ts i) := by
  rcases h with h | ⟨g, e, hg, hc⟩
  · omega
  · exact ⟨g, e, hg, hc i hi⟩

set_option maxHeartbeats 400000 in
theorem punct_any (ks : List Int) (ts : List ByteArray) (a : Option Addr) (n cap : Nat) (c : Value) (p : Int) (m : ByteArray) (w : World) (hn : ks.length = n) (hm : n ≤ 1048576) (V : TV w a n ks ts) :
    Calls Try.prog 27 #[.agg #[.slice a n cap, c], .int .i64 p, .string m] w fun e w' => e = .returned (.bool (markB ks ts p m)) ∧ Below w.heap.size w w' := by
  by_cases h0 : 0 ≤ p
  · by_cases h1 : p < n
    · obtain ⟨g, rfl, hg, hc1, hc2⟩ := V.at p.toNat (by omega)
      have e : markB ks ts p m = (ks.getD p.toNat 0 == 4 && (ts.getD p.toNat ByteArray.empty).toList == m.toList) := by simp [markB, kindB, hn, h0, h1]
      rw [e]
      unfold iv at hc1
      unfold sv at hc2
      generalize ks.getD p.toNat 0 = x at *
      generalize ts.getD p.toNat ByteArray.empty = y at *
      clear V e hn
      go_enter Try.func27, Try.ntmps27
      go_wp2_with (go_at_call 34; refine (is_punct _ _ _ _).mono ?_; rintro e w' ⟨rfl, hb⟩)
      go_ret
      exact ⟨rfl, ((Below.refl _ _).alloc (Nat.le_refl _) _).trans (hb.mono (by simp))⟩
    · have e : markB ks ts p m = false := by simp [markB, kindB, hn, h1]
      rw [e]
      clear V e hn
      go_enter Try.func27, Try.ntmps27
      go_wp2
      go_ret
      exact ⟨rfl, (Below.refl _ _).alloc (Nat.le_refl _) _⟩
  · have e : markB ks ts p m = false := by simp [markB, kindB, h0]
    rw [e]
    clear V e hn
    go_enter Try.func27, Try.ntmps27
    go_wp2
    go_ret
    exact ⟨rfl, (Below.refl _ _).alloc (Nat.le_refl _) _⟩

/-- a row of a call's own: n cells of block g from its head on, none of them frozen -/
structure Own (B : Nat) (w : World) (g n : Nat) (f : Nat → Value) : Prop where
  lo : B ≤ g
  hi : g < w.heap.size
  cell : ∀ i, i < n → w.cell? ⟨g, i, none⟩ = some (f i)
  fz : ∀ i, w.frozen? ⟨g, i, none⟩ = false

theorem Own.on {B : Nat} {w w' : World} {g n : Nat} {f : Nat → Value} (h : Own B w g n f) (k : Below w.heap.size w w') : Own B w' g n f :=
  ⟨h.lo, Nat.lt_of_lt_of_le h.hi k.size, fun i hi => by rw [k.cell (show (⟨g, i, none⟩ : Addr).block < _ from h.hi)]; exact h.cell i hi, fun i => by rw [k.frozen (show (⟨g, i, none⟩ : Addr).block < _ from h.hi)]; exact h.fz i⟩

theorem Own.set {B : Nat} {w : World} {g n : Nat} {f : Nat → Value} (h : Own B w g n f) (k : Nat) (hk : k < n) (v : Value) : Own B (w.setCell ⟨g, k, none⟩ v) g n (fun i => if i = k then v else f i) := by
  refine ⟨h.lo, by simpa using h.hi, fun i hi => ?_, fun i => by rw [World.frozen?_setCell]; exact h.fz i⟩
  by_cases e : i = k
  · subst e
    rw [World.cell?_setCell_same _ _ _ (h.cell i hi), if_pos rfl]
  · rw [World.cell?_setCell_other _ _ _ _ (by simp <;> omega), if_neg e]
    exact h.cell i hi

theorem Own.congr {B : Nat} {w : World} {g n : Nat} {f f' : Nat → Value} (h : Own B w g n f) (e : ∀ i, i < n → f i = f' i) : Own B w g n f' :=
  ⟨h.lo, h.hi, fun i hi => by rw [← e i hi]; exact h.cell i hi, h.fz⟩

theorem Own.drew {B : Nat} {w : World} {g n : Nat} {f : Nat → Value} (h : Own B w g n f) : Own B w.drew g n f := ⟨h.lo, h.hi, h.cell, h.fz⟩

theorem Own.sv {B : Nat} {w : World} {g n : Nat} {f : Nat → Value} (h : Own B w g n f) : SV w (some ⟨g, 0, none⟩) n f :=
  .inr ⟨g, 0, rfl, h.hi, fun i hi => by rw [Nat.zero_add]; exact h.cell i hi⟩

theorem own_made (w : World) (z : Value) (n : Nat) (e : TypeId) : Own w.heap.size (w.alloc (.cells (madeCells #[z] n) e)) w.heap.size n (fun _ => z) := by
  refine ⟨Nat.le_refl _, by simp, fun i hi => ?_, fun i => by simp⟩
  rw [World.cell?_alloc_at _ _ _ _ rfl]
  simp [madeCells, hi, Nat.mod_one]

theorem info3 : (Try.prog.info? 3).map (fun i => (i.zero, i.size, i.bytes)) = some (some (.int .i64 0), 1, 8) := by kernel_rfl
theorem info9 : (Try.prog.info? 9).map (fun i => (i.zero, i.size, i.bytes)) = some (some (.string ByteArray.empty), 1, 16) := by kernel_rfl

set_option maxHeartbeats 400000 in
theorem copyInts_nil (w : World) : Calls Try.prog 9 #[.slice none 0 0] w fun e w' => e = .returned (.slice none 0 0) ∧ w' = w := by
  have q := fun (w : World) (a : Option Addr) (n c n' c' : Nat) => Lib.run_eql_slice_nil (P := Try.prog) w 22 3 a n c n' c' Try.underlying22
  go_enter Try.func9, Try.ntmps9
  go_wp2
  go_ret
  exact ⟨rfl, rfl⟩

set_option maxHeartbeats 400000 in
theorem copyInts_some (x : Addr) (len cap : Nat) (zs : List Int) (w : World) (hl : len ≤ 1048576) (h : SV w (some x) len (iv zs)) :
    Calls Try.prog 9 #[.slice (some x) len cap] w fun e w' => ∃ g, e = .returned (.slice (some ⟨g, 0, none⟩) len len) ∧ Below w.heap.size w w' ∧ Own w.heap.size w' g len (iv zs) := by
  have HR : Hid (SV w (some x) len (iv zs)) := h
  clear h
  have q := fun (w : World) (a : Option Addr) (n c n' c' : Nat) => Lib.run_eql_slice_nil (P := Try.prog) w 22 3 a n c n' c' Try.underlying22
  have hmk := run_make_row' (P := Try.prog) 22 3 (.int .i64 0) 8 Try.underlying22 info3 rfl .i64 .i64 len (by omega) (by omega)
  go_enter Try.func9, Try.ntmps9
  go_wp2
  have O0 := own_made w (.int .i64 0) len 3
  clear q hmk
  go_loopw [4] (fun i wr => ∃ k : Nat, k ≤ len ∧ i = .int .i64 k ∧ Below w.heap.size w wr ∧ Own w.heap.size wr w.heap.size len (fun i => if i < k then iv zs i else .int .i64 0)) (fun i _ => len - (intOf i).toNat)
  case atStart => exact ⟨0, by omega, rfl, (Below.refl _ _).alloc (Nat.le_refl _) _, O0.congr (fun i _ => by simp)⟩
  case round =>
    clear O0
    obtain ⟨k, hk, rfl, hb, O⟩ := hrel
    by_cases hlt : k < len
    · have hc : ∃ b off, x = ⟨b, off, none⟩ ∧ wr.cell? ⟨b, off + k, none⟩ = some (iv zs k) := by
        rcases HR.out with h | ⟨b, off, e, hbl, hcell⟩
        · omega
        · simp at e
          exact ⟨b, off, e, by rw [hb.cell (show (⟨b, off + k, none⟩ : Addr).block < _ from hbl)]; exact hcell k hlt⟩
      obtain ⟨b, off, rfl, hc⟩ := hc
      obtain ⟨v0, hs⟩ : ∃ v0, wr.cell? ⟨w.heap.size, k, none⟩ = some v0 := ⟨_, O.cell k hlt⟩
      have hf := O.fz k
      obtain ⟨y, hy⟩ : ∃ y, iv zs k = .int .i64 y := ⟨_, rfl⟩
      have HY : Hid (iv zs k = .int .i64 y) := hy
      rw [hy] at hc
      clear hy
      go_wp2
      go_round
      case rel =>
        refine ⟨k + 1, by omega, by go_num, hb.setCell (Nat.le_refl _) _, (O.set k hlt _).congr (fun i _ => ?_)⟩
        by_cases e : i = k
        · subst e; rw [if_pos rfl, if_pos (by omega), HY.out]
        · rw [if_neg e]
          have : (i < k + 1) = (i < k) := by rw [eq_iff_iff]; omega
          simp only [this]
      case measure => simp [intOf]; omega
    · go_wp2
      go_ret
      exact ⟨_, rfl, hb, O.congr (fun i hi => by rw [if_pos (by omega)])⟩

/-- the copy of whatever slice: nil or a row of the call's own -/
theorem copyInts_any (a : Option Addr) (len cap : Nat) (zs : List Int) (w : World) (hl : len ≤ 1048576) (hn : a = none → len = 0 ∧ cap = 0) (h : SV w a len (iv zs)) :
    Calls Try.prog 9 #[.slice a len cap] w fun e w' => ∃ a', e = .returned (.slice a' len len) ∧ Below w.heap.size w w' ∧ SV w' a' len (iv zs) := by
  cases a with
  | none =>
    obtain ⟨rfl, rfl⟩ := hn rfl
    refine (copyInts_nil w).mono ?_
    rintro e w' ⟨rfl, rfl⟩
    exact ⟨none, rfl, Below.refl _ _, .inl rfl⟩
  | some x =>
    refine (copyInts_some x len cap zs w hl h).mono ?_
    rintro e w' ⟨g, rfl, hb, O⟩
    exact ⟨some ⟨g, 0, none⟩, rfl, hb, O.sv⟩

set_option maxHeartbeats 400000 in
theorem copyStrs_nil (w : World) : Calls Try.prog 10 #[.slice none 0 0] w fun e w' => e = .returned (.slice none 0 0) ∧ w' = w := by
  have q := fun (w : World) (a : Option Addr) (n c n' c' : Nat) => Lib.run_eql_slice_nil (P := Try.prog) w 23 9 a n c n' c' Try.underlying23
  go_enter Try.func10, Try.ntmps10
  go_wp2
  go_ret
  exact ⟨rfl, rfl⟩

set_option maxHeartbeats 400000 in
theorem copyStrs_some (x : Addr) (len cap : Nat) (zs : List ByteArray) (w : World) (hl : len ≤ 1048576) (h : SV w (some x) len (sv zs)) :
    Calls Try.prog 10 #[.slice (some x) len cap] w fun e w' => ∃ g, e = .returned (.slice (some ⟨g, 0, none⟩) len len) ∧ Below w.heap.size w w' ∧ Own w.heap.size w' g len (sv zs) := by
  have HR : Hid (SV w (some x) len (sv zs)) := h
  clear h
  have q := fun (w : World) (a : Option Addr) (n c n' c' : Nat) => Lib.run_eql_slice_nil (P := Try.prog) w 23 9 a n c n' c' Try.underlying23
  have hmk := run_make_row' (P := Try.prog) 23 9 (.string ByteArray.empty) 16 Try.underlying23 info9 rfl .i64 .i64 len (by omega) (by omega)
  go_enter Try.func10, Try.ntmps10
  go_wp2
  have O0 := own_made w (.string ByteArray.empty) len 9
  clear q hmk
  go_loopw [4] (fun i wr => ∃ k : Nat, k ≤ len ∧ i = .int .i64 k ∧ Below w.heap.size w wr ∧ Own w.heap.size wr w.heap.size len (fun i => if i < k then sv zs i else .string ByteArray.empty)) (fun i _ => len - (intOf i).toNat)
  case atStart => exact ⟨0, by omega, rfl, (Below.refl _ _).alloc (Nat.le_refl _) _, O0.congr (fun i _ => by simp)⟩
  case round =>
    clear O0
    obtain ⟨k, hk, rfl, hb, O⟩ := hrel
    by_cases hlt : k < len
    · have hc : ∃ b off, x = ⟨b, off, none⟩ ∧ wr.cell? ⟨b, off + k, none⟩ = some (sv zs k) := by
        rcases HR.out with h | ⟨b, off, e, hbl, hcell⟩
        · omega
        · simp at e
          exact ⟨b, off, e, by rw [hb.cell (show (⟨b, off + k, none⟩ : Addr).block < _ from hbl)]; exact hcell k hlt⟩
      obtain ⟨b, off, rfl, hc⟩ := hc
      obtain ⟨v0, hs⟩ : ∃ v0, wr.cell? ⟨w.heap.size, k, none⟩ = some v0 := ⟨_, O.cell k hlt⟩
      have hf := O.fz k
      obtain ⟨y, hy⟩ : ∃ y, sv zs k = .string y := ⟨_, rfl⟩
      have HY : Hid (sv zs k = .string y) := hy
      rw [hy] at hc
      clear hy
      go_wp2
      go_round
      case rel =>
        refine ⟨k + 1, by omega, by go_num, hb.setCell (Nat.le_refl _) _, (O.set k hlt _).congr (fun i _ => ?_)⟩
        by_cases e : i = k
        · subst e; rw [if_pos rfl, if_pos (by omega), HY.out]
        · rw [if_neg e]
          have : (i < k + 1) = (i < k) := by rw [eq_iff_iff]; omega
          simp only [this]
      case measure => simp [intOf]; omega
    · go_wp2
      go_ret
      exact ⟨_, rfl, hb, O.congr (fun i hi => by rw [if_pos (by omega)])⟩

/-- the copy of whatever slice: nil or a row of the call's own -/
theorem copyStrs_any (a : Option Addr) (len cap : Nat) (zs : List ByteArray) (w : World) (hl : len ≤ 1048576) (hn : a = none → len = 0 ∧ cap = 0) (h : SV w a len (sv zs)) :
    Calls Try.prog 10 #[.slice a len cap] w fun e w' => ∃ a', e = .returned (.slice a' len len) ∧ Below w.heap.size w w' ∧ SV w' a' len (sv zs) := by
  cases a with
  | none =>
    obtain ⟨rfl, rfl⟩ := hn rfl
    refine (copyStrs_nil w).mono ?_
    rintro e w' ⟨rfl, rfl⟩
    exact ⟨none, rfl, Below.refl _ _, .inl rfl⟩
  | some x =>
    refine (copyStrs_some x len cap zs w hl h).mono ?_
    rintro e w' ⟨g, rfl, hb, O⟩
    exact ⟨some ⟨g, 0, none⟩, rfl, hb, O.sv⟩

theorem info48 : (Try.prog.info? 48).map (fun i => (i.zero, i.size, i.bytes)) = some (some (.agg #[.int .i64 0, .string ByteArray.empty]), 2, 24) := by kernel_rfl

theorem make_toks (n : Nat) (h : n ≤ 1048576) (w : World) :
    (Instr.makeSlice 34 (.int .i64 (n : Int)) (.int .i64 (n : Int))).run Try.prog w = .ok (.slice (some ⟨w.heap.size, 0, none⟩) n n) (w.alloc (.cells (madeCells #[.int .i64 0, .string ByteArray.empty] (n * 2)) 48)) := by
  obtain ⟨i, hi, hzz⟩ := Option.map_eq_some_iff.1 info48
  simp only [Prod.mk.injEq] at hzz
  obtain ⟨hz, hs, hb⟩ := hzz
  have hr := run_make (P := Try.prog) w 34 48 i _ Try.underlying34 hi hz .i64 .i64 n n (by omega) (Int.le_refl _) (by rw [hb]; omega) (by omega)
  simp only [Int.toNat_natCast, hs] at hr
  exact hr

/-- the cells of the tokens -/
def tokf (ks : List Int) (ts : List ByteArray) (i : Nat) : Value := if i % 2 = 0 then iv ks (i / 2) else sv ts (i / 2)
def zf (i : Nat) : Value := if i % 2 = 0 then .int .i64 0 else .string ByteArray.empty

theorem own_toks (w : World) (n : Nat) : Own w.heap.size (w.alloc (.cells (madeCells #[.int .i64 0, .string ByteArray.empty] (n * 2)) 48)) w.heap.size (n * 2) zf := by
  refine ⟨Nat.le_refl _, by simp, fun i hi => ?_, fun i => by simp⟩
  rw [World.cell?_alloc_at _ _ _ _ rfl]
  have : i % 2 = 0 ∨ i % 2 = 1 := by omega
  rcases this with h | h <;> simp [madeCells, hi, zf, h]

set_option maxHeartbeats 1000000 in
theorem toks_any (ks : List Int) (ts : List ByteArray) (a a2 : Option Addr) (n cap cap2 : Nat) (w : World) (hm : n ≤ 1048576) (V : SV w a n (iv ks)) (V2 : SV w a2 n (sv ts)) :
    Calls Try.prog 19 #[.slice a n cap, .slice a2 n cap2] w fun e w' => ∃ a', e = .returned (.slice a' n n) ∧ Below w.heap.size w w' ∧ TV w' a' n ks ts := by
  have HV : Hid (SV w a n (iv ks)) := V
  have HV2 : Hid (SV w a2 n (sv ts)) := V2
  clear V V2
  have hmk := make_toks n hm
  go_enter Try.func19, Try.ntmps19
  go_wp2
  have O0 := own_toks w n
  clear hmk
  go_loopw [6] (fun i wr => ∃ k : Nat, k ≤ n ∧ i = .int .i64 k ∧ Below w.heap.size w wr ∧ Own w.heap.size wr w.heap.size (n * 2) (fun i => if i < k * 2 then tokf ks ts i else zf i)) (fun i _ => n - (intOf i).toNat)
  case atStart => exact ⟨0, by omega, rfl, (Below.refl _ _).alloc (Nat.le_refl _) _, O0.congr (fun i _ => by simp)⟩
  case round =>
    clear O0
    obtain ⟨k, hk, rfl, hb, O⟩ := hrel
    by_cases hlt : k < n
    · obtain ⟨b, off, ea, hc⟩ := (HV.out).at k hlt
      obtain ⟨b2, off2, ea2, hc2⟩ := (HV2.out).at k hlt
      have hbl := block_lt_of_cell hc
      have hbl2 := block_lt_of_cell hc2
      simp only at hbl hbl2
      subst ea ea2
      replace hc : wr.cell? ⟨b, off + k, none⟩ = some (iv ks k) := by rw [hb.cell (show (⟨b, off + k, none⟩ : Addr).block < _ from hbl)]; exact hc
      replace hc2 : wr.cell? ⟨b2, off2 + k, none⟩ = some (sv ts k) := by rw [hb.cell (show (⟨b2, off2 + k, none⟩ : Addr).block < _ from hbl2)]; exact hc2
      obtain ⟨v0, hs0⟩ : ∃ v0, wr.cell? ⟨w.heap.size, k * 2, none⟩ = some v0 := ⟨_, O.cell (k * 2) (by omega)⟩
      obtain ⟨v1, hs1⟩ : ∃ v1, wr.cell? ⟨w.heap.size, k * 2 + 1, none⟩ = some v1 := ⟨_, O.cell (k * 2 + 1) (by omega)⟩
      have hf0 := O.fz (k * 2)
      have hf1 := O.fz (k * 2 + 1)
      have O2 := ((O.set (k * 2) (by omega) (iv ks k)).set (k * 2 + 1) (by omega) (sv ts k))
      obtain ⟨y, hy⟩ : ∃ y, iv ks k = .int .i64 y := ⟨_, rfl⟩
      obtain ⟨z, hz⟩ : ∃ z, sv ts k = .string z := ⟨_, rfl⟩
      have HY : Hid (iv ks k = .int .i64 y) := hy
      have HZ : Hid (sv ts k = .string z) := hz
      rw [hy] at hc
      rw [hz] at hc2
      clear hy hz
      go_wp2
      go_region
      all_goals
        go_wp2
        go_roundw
        case rel =>
          refine ⟨k + 1, by omega, by go_num, ((hb.setCell (Nat.le_refl _) _).setCell (Nat.le_refl _) _).drew, ?_⟩
          rw [HY.out, HZ.out] at O2
          refine (O2.congr (fun i _ => ?_)).drew
          by_cases e1 : i = k * 2 + 1
          · subst e1
            rw [if_pos rfl, if_pos (by omega), tokf, if_neg (by omega), show (k * 2 + 1) / 2 = k by omega, HZ.out]
          · rw [if_neg e1]
            by_cases e2 : i = k * 2
            · subst e2
              rw [if_pos rfl, if_pos (by omega), tokf, if_pos (by omega), show k * 2 / 2 = k by omega, HY.out]
            · rw [if_neg e2]
              have : (i < (k + 1) * 2) = (i < k * 2) := by rw [eq_iff_iff]; omega
              simp only [this]
        case measure => simp [intOf]; omega
    · go_wp2
      go_ret
      refine ⟨_, rfl, hb, .inr ⟨_, rfl, O.hi, fun i hi => ⟨?_, ?_⟩⟩⟩
      · rw [O.cell (i * 2) (by omega)]
        rw [if_pos (by omega), tokf, if_pos (by omega), show i * 2 / 2 = i by omega]
      · rw [O.cell (i * 2 + 1) (by omega)]
        rw [if_pos (by omega), tokf, if_neg (by omega), show (i * 2 + 1) / 2 = i by omega]

end Go.Proofs.Qxb6605218a
