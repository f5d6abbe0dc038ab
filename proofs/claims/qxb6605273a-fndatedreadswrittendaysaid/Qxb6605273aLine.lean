/-
  Slices of bytes: what they read as; cloneBytes (11), sameBytes (14), the two appends within the capacity.
-/
import Derived.Test.Qxb6605273aMonth
import Derived.BigQuiet
import Derived.Deep.QuietTactic
import Derived.Deep.AppendSrc
namespace Go.Proofs.Qxb6605273a
open Go.RowKit
set_option linter.unusedVariables false

/-- what a slice of bytes reads as: its first n cells -/
def RB (w : World) (a : Option Addr) (n : Nat) (f : Nat → Nat) : Prop :=
  n = 0 ∨ ∃ b off, a = some ⟨b, off, none⟩ ∧ b < w.heap.size ∧ ∀ i, i < n → w.cell? ⟨b, off + i, none⟩ = some (.int .u8 (f i : Int))

theorem RB.on {w w' : World} {a : Option Addr} {n : Nat} {f : Nat → Nat} (h : RB w a n f) (k : Below w.heap.size w w') : RB w' a n f := by
  rcases h with h | ⟨b, off, e, hb, hc⟩
  · exact .inl h
  · exact .inr ⟨b, off, e, Nat.lt_of_lt_of_le hb k.size, fun i hi => by rw [k.cell (show (⟨b, off + i, none⟩ : Addr).block < _ from hb)]; exact hc i hi⟩

theorem RB.congr {w : World} {a : Option Addr} {n : Nat} {f f' : Nat → Nat} (h : RB w a n f) (e : ∀ i, i < n → f i = f' i) : RB w a n f' := by
  rcases h with h | ⟨b, off, e', hb, hc⟩
  · exact .inl h
  · exact .inr ⟨b, off, e', hb, fun i hi => by rw [hc i hi, e i hi]⟩

theorem OwnB.rb {w : World} {g n : Nat} {f : Nat → Nat} (h : OwnB w g n f) (k : Nat) (hk : k ≤ n) : RB w (some ⟨g, k, none⟩) (n - k) (fun i => f (k + i)) :=
  .inr ⟨g, k, rfl, h.hi, fun i hi => h.cell (k + i) (by omega)⟩

theorem RB.cell {w : World} {a : Option Addr} {n : Nat} {f : Nat → Nat} (h : RB w a n f) (i : Nat) (hi : i < n) : ∃ b off, a = some ⟨b, off, none⟩ ∧ w.cell? ⟨b, off + i, none⟩ = some (.int .u8 (f i : Int)) := by
  rcases h with h | ⟨b, off, e, _, hc⟩
  · omega
  · exact ⟨b, off, e, hc i hi⟩

theorem below_drewN (w : World) (n : Nat) : Below w.heap.size w (w.drewN n) := ⟨rfl, rfl, rfl, Nat.le_refl _, fun _ _ => rfl⟩

/-! ### cloneBytes (11) -/
theorem clone_nil (w : World) : Calls Try.prog 11 #[.slice none 0 0] w fun e w' => e = .returned (.slice none 0 0) ∧ w' = w := by
  have q := fun (w : World) (a : Option Addr) (n c n' c' : Nat) => Lib.run_eql_slice_nil (P := Try.prog) w 25 5 a n c n' c' Try.underlying25
  go_enter Try.func11, Try.ntmps11
  go_wp2
  go_ret
  exact ⟨rfl, rfl⟩

set_option maxHeartbeats 400000 in
theorem clone_some (x : Addr) (n cap : Nat) (f : Nat → Nat) (w : World) (hl : n ≤ 1048576) (h : RB w (some x) n f) :
    Calls Try.prog 11 #[.slice (some x) n cap] w fun e w' => ∃ g, e = .returned (.slice (some ⟨g, 0, none⟩) n n) ∧ Below w.heap.size w w' ∧ OwnB w' g n f := by
  have HR : Hid (RB w (some x) n f) := h
  clear h
  have q := fun (w : World) (a : Option Addr) (n c n' c' : Nat) => Lib.run_eql_slice_nil (P := Try.prog) w 25 5 a n c n' c' Try.underlying25
  have hmk := run_make_row' (P := Try.prog) 25 5 (.int .u8 0) 1 Try.underlying25 info5 rfl .i64 .i64 n (by omega) (by omega)
  go_enter Try.func11, Try.ntmps11
  go_wp2
  have O0 := ownB_made w n 5
  clear q hmk
  go_loopw [4] (fun i wr => ∃ k : Nat, k ≤ n ∧ i = .int .i64 k ∧ Below w.heap.size w wr ∧ OwnB wr w.heap.size n (fun i => if i < k then f i else 0)) (fun i _ => n - (intOf i).toNat)
  case atStart => exact ⟨0, by omega, rfl, (Below.refl _ _).alloc (Nat.le_refl _) _, O0.congr (fun i _ => by simp)⟩
  case round =>
    clear O0
    obtain ⟨k, hk, rfl, hb, O⟩ := hrel
    by_cases hlt : k < n
    · obtain ⟨b, off, e, hc⟩ := (HR.out.cell k hlt)
      have hbl : b < w.heap.size := by
        rcases HR.out with h | ⟨b', off', e', hb', _⟩
        · omega
        · rw [e] at e'; simp at e'; omega
      have hc' : wr.cell? ⟨b, off + k, none⟩ = some (.int .u8 (f k : Int)) := by rw [hb.cell (show (⟨b, off + k, none⟩ : Addr).block < _ from hbl)]; exact hc
      simp at e
      subst e
      clear hc hbl
      have hs := O.cell k hlt
      have hf := O.fz k hlt
      have O2 : Hid (OwnB (wr.setCell ⟨w.heap.size, k, none⟩ (.int .u8 (f k : Int))) w.heap.size n (fun i => if i < k + 1 then f i else 0)) := by
        refine (O.set k (f k) hlt).congr (fun i _ => ?_)
        by_cases e : i = k
        · subst e; simp
        · rw [if_neg e]
          have : (i < k + 1) = (i < k) := by rw [eq_iff_iff]; omega
          simp only [this]
      go_wp2
      go_round
      case rel =>
        exact ⟨k + 1, by omega, by go_num, hb.setCell (Nat.le_refl _) _, O2.out⟩
      case measure => simp [intOf]; omega
    · go_wp2
      go_ret
      exact ⟨_, rfl, hb, O.congr (fun i hi => by rw [if_pos (by omega)])⟩

/-- the clone of whatever slice: nil or a row of the call's own -/
theorem clone_any (a : Option Addr) (n cap : Nat) (f : Nat → Nat) (w : World) (hl : n ≤ 1048576) (hn : a = none → n = 0 ∧ cap = 0) (h : RB w a n f) :
    Calls Try.prog 11 #[.slice a n cap] w fun e w' => ∃ a', e = .returned (.slice a' n n) ∧ Below w.heap.size w w' ∧ ((a' = none ∧ n = 0) ∨ ∃ g, a' = some ⟨g, 0, none⟩ ∧ OwnB w' g n f) := by
  cases a with
  | none =>
    obtain ⟨rfl, rfl⟩ := hn rfl
    refine (clone_nil w).mono ?_
    rintro e w' ⟨rfl, rfl⟩
    exact ⟨none, rfl, Below.refl _ _, .inl ⟨rfl, rfl⟩⟩
  | some x =>
    refine (clone_some x n cap f w hl h).mono ?_
    rintro e w' ⟨g, rfl, hb, O⟩
    exact ⟨some ⟨g, 0, none⟩, rfl, hb, .inr ⟨g, rfl, O⟩⟩

/-! ### sameBytes (14) at two slices that read the same -/
set_option maxHeartbeats 400000 in
theorem same_any (a a' : Option Addr) (n cap cap' : Nat) (f f' : Nat → Nat) (w : World) (hl : n ≤ 2000000) (h : RB w a n f) (h' : RB w a' n f') (he : ∀ i, i < n → f i = f' i) :
    Calls Try.prog 14 #[.slice a n cap, .slice a' n cap'] w fun e w' => e = .returned (.bool true) ∧ Below w.heap.size w w' := by
  have HR : Hid (RB w a n f) := h
  have HR' : Hid (RB w a' n f') := h'
  have HE : Hid (∀ i, i < n → f i = f' i) := he
  clear h h' he
  go_enter Try.func14, Try.ntmps14
  go_wp2
  go_loopw [5] (fun i wr => ∃ k : Nat, k ≤ n ∧ i = .int .i64 k ∧ Below w.heap.size w wr) (fun i _ => n - (intOf i).toNat)
  case atStart => exact ⟨0, by omega, rfl, Below.refl _ _⟩
  case round =>
    obtain ⟨k, hk, rfl, hb⟩ := hrel
    by_cases hlt : k < n
    · obtain ⟨b, off, rfl, hc⟩ := ((HR.out.on hb).cell k hlt)
      obtain ⟨b', off', rfl, hc'⟩ := ((HR'.out.on hb).cell k hlt)
      rw [← HE.out k hlt] at hc'
      generalize f k = x at *
      go_wp2
      go_quiet (fail)
      have B2 : Below w.heap.size w (wr.drewN nq) := hb.trans ((below_drewN wr nq).mono hb.size)
      generalize wr.drewN nq = w3 at *
      go_wp2
      go_round
      case rel => exact ⟨k + 1, by omega, by go_num, B2⟩
      case measure => simp [intOf]; omega
    · go_wp2
      go_ret
      exact ⟨rfl, hb⟩

/-! ### the line: make([]byte, 0, n) and the two appends -/
theorem make_line (n : Nat) (h : n ≤ 2000000) (w : World) :
    (Instr.makeSlice 25 (.int .i64 0) (.int .i64 (n : Int))).run Try.prog w = .ok (.slice (some ⟨w.heap.size, 0, none⟩) 0 n) (w.alloc (.cells (madeCells #[.int .u8 0] n) 5)) := by
  obtain ⟨i, hi, hzz⟩ := Option.map_eq_some_iff.1 info5
  simp only [Prod.mk.injEq] at hzz
  obtain ⟨hz, hs, hb⟩ := hzz
  have hr := run_make (P := Try.prog) w 25 5 i _ Try.underlying25 hi hz .i64 .i64 0 n (by omega) (by omega) (by rw [hb]; omega) (by omega)
  simp only [Int.toNat_natCast, hs, Nat.mul_one] at hr
  exact hr

theorem below_setCells {B : Nat} {a : World} (g : Nat) (hB : B ≤ g) : ∀ (vs : List Value) (o : Nat) (w : World), Below B a w → Below B a (w.setCells g o vs)
  | [], _, _, h => h
  | v :: r, o, w, h => below_setCells g hB r (o + 1) _ (h.setCell hB v)
theorem size_setCells (g : Nat) : ∀ (vs : List Value) (o : Nat) (w : World), (w.setCells g o vs).heap.size = w.heap.size
  | [], _, _ => rfl
  | v :: r, o, w => by rw [World.setCells, size_setCells g r]; simp

theorem app_src (w : World) (g k cap : Nat) (f : Nat → Nat) (O : OwnB w g cap f) (tx : TypeId) (x : Value) (m : Nat) (bs : Nat → Nat) (hs : Src Try.prog 1 tx x m ((List.range m).map fun i => Value.int .u8 (bs i : Int)) w) (hroom : k + m ≤ cap) :
    ∃ w', (Builtin.append_ #[25, tx] 25 #[.slice (some ⟨g, 0, none⟩) k cap, x]).run Try.prog w = .ok (.slice (some ⟨g, 0, none⟩) (k + m) cap) w' ∧
      OwnB w' g cap (fun i => if i < k then f i else if i < k + m then bs (i - k) else f i) ∧ Below g w w' ∧ w'.heap.size = w.heap.size := by
  obtain ⟨i, hi, hzz⟩ := Option.map_eq_some_iff.1 info5
  simp only [Prod.mk.injEq] at hzz
  obtain ⟨hz, hsz, hb⟩ := hzz
  have hlen : ((List.range m).map fun i => Value.int .u8 (bs i : Int)).length = m := by simp
  have hr := run_append_room_src (P := Try.prog) w 25 tx 25 5 i Try.underlying25 hi g 0 k cap x m _ (by rw [hsz]; exact hs) hroom
    (fun j hj => by rw [hlen] at hj; rw [hsz, O.cell _ (by omega)]; rfl) (fun j hj => by rw [hlen] at hj; rw [hsz]; exact O.fz _ (by omega))
  rw [hsz, Nat.zero_add, Nat.mul_one] at hr
  refine ⟨_, hr, ⟨by rw [size_setCells]; exact O.hi, fun j hj => ?_, fun j hj => by rw [World.frozen?_setCells]; exact O.fz j hj⟩, below_setCells g (Nat.le_refl _) _ _ _ (Below.refl _ _), size_setCells _ _ _ _⟩
  by_cases h1 : j < k
  · rw [World.cell?_setCells_out _ _ _ _ _ (fun _ _ => .inl h1), if_pos h1]
    exact O.cell j hj
  · rw [if_neg h1]
    by_cases h2 : j < k + m
    · rw [if_pos h2]
      have := World.cell?_setCells_in g ((List.range m).map fun i => Value.int .u8 (bs i : Int)) k w (fun i hi => by rw [hlen] at hi; rw [O.cell _ (by omega)]; rfl) (j - k) (by rw [hlen]; omega)
      rw [show k + (j - k) = j by omega] at this
      rw [this]
      simp
    · rw [if_neg h2, World.cell?_setCells_out _ _ _ _ _ (fun _ _ => .inr (by rw [hlen]; show _ ≤ j; omega))]
      exact O.cell j hj

theorem map_range (l : List UInt8) : (l.map fun b => Value.int .u8 (b.toNat : Int)) = (List.range l.length).map fun i => Value.int .u8 ((l.getD i 0).toNat : Int) := by
  apply List.ext_getElem
  · simp
  · intro i h1 h2
    simp at h1
    simp [h1]

theorem src_text (w : World) (s : ByteArray) : Src Try.prog 1 9 (.string s) s.size ((List.range s.size).map fun i => Value.int .u8 (at_ s i : Int)) w := by
  have := Src.ofString (P := Try.prog) w Try.underlying9 s
  have e : byteCells s = (List.range s.size).map fun i => Value.int .u8 (at_ s i : Int) := by
    have hl : s.data.toList.length = s.size := by rw [Array.length_toList]; rfl
    rw [← hl]
    exact map_range s.data.toList
  rw [e] at this
  exact this

theorem src_slice (w : World) (a : Option Addr) (n cap : Nat) (f : Nat → Nat) (h : (a = none ∧ n = 0) ∨ ∃ g, a = some ⟨g, 0, none⟩ ∧ OwnB w g n f) : Src Try.prog 1 25 (.slice a n cap) n ((List.range n).map fun i => Value.int .u8 (f i : Int)) w := by
  rcases h with ⟨rfl, rfl⟩ | ⟨g, rfl, O⟩
  · exact Src.ofNil (P := Try.prog) w Try.underlying25 cap
  · refine Src.ofSlice (P := Try.prog) w Try.underlying25 ⟨g, 0, none⟩ n cap _ (by simp) (fun j u hu => ?_) (fun u hu => ?_)
    · rw [List.getElem?_map, Option.map_eq_some_iff] at hu
      obtain ⟨i, hi, rfl⟩ := hu
      obtain ⟨hlt, rfl⟩ := List.getElem?_eq_some_iff.1 hi
      simp at hlt
      rw [Go.WideShapes.add_plain, Nat.zero_add]
      simp
      exact O.cell j hlt
    · obtain ⟨_, _, rfl⟩ := List.mem_map.1 hu
      rfl

end Go.Proofs.Qxb6605273a
