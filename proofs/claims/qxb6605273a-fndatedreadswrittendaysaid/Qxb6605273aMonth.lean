/-
  isMonth (15) and ZZIsMonth (7): true exactly at four digits, '-', and a month from 01 to 12.
-/
import Derived.Test.Qxb6605273aPad
namespace Go.Proofs.Qxb6605273a
open Go.RowKit
set_option linter.unusedVariables false

/-- the byte at i -/
def at_ (s : ByteArray) (i : Nat) : Nat := (s.data.toList.getD i 0).toNat
theorem idx (s : ByteArray) (i : Nat) (h : i < s.size) : (s[i]'h).toNat = at_ s i := by
  unfold at_
  obtain ⟨⟨l⟩⟩ := s
  have hl : i < l.length := h
  simp [hl]
  rfl
theorem at_lt (s : ByteArray) (i : Nat) : at_ s i < 256 := UInt8.toNat_lt _

theorem seven (s : ByteArray) (h : s.size = 7) : ∃ a b c d e f g : UInt8, s = ⟨#[a, b, c, d, e, f, g]⟩ := by
  obtain ⟨⟨l⟩⟩ := s
  match l, h with
  | [a, b, c, d, e, f, g], _ => exact ⟨a, b, c, d, e, f, g, rfl⟩

/-- a byte that is a digit -/
def Dg (n : Nat) : Prop := 48 ≤ n ∧ n ≤ 57
/-- the text of a month -/
def Mon (s : ByteArray) : Prop :=
  s.size = 7 ∧ at_ s 4 = 45 ∧ (∀ i, i < 7 → i ≠ 4 → Dg (at_ s i)) ∧ 1 ≤ (at_ s 5 - 48) * 10 + (at_ s 6 - 48) ∧ (at_ s 5 - 48) * 10 + (at_ s 6 - 48) ≤ 12

/-- the answer of isMonth -/
def MonAns (s : ByteArray) (w w' : World) (e : Ending) : Prop := ∃ r : Bool, Hid (r = true ↔ Mon s) ∧ e = .returned (.bool r) ∧ Below w.heap.size w w'

theorem tail7 (s : ByteArray) (h : s.size = 7) : ∃ f g : UInt8, (s.extract 5 7).toList = [f, g] ∧ f.toNat = at_ s 5 ∧ g.toNat = at_ s 6 := by
  obtain ⟨a, b, c, d, e, f, g, rfl⟩ := seven s h
  refine ⟨f, g, ?_, rfl, rfl⟩
  rw [ByteArray.toList_eq]
  rfl

theorem u8_eq (f : UInt8) (n : Nat) (hn : n < 256) : (f == UInt8.ofNat n) = decide (f.toNat = n) := by
  rw [Bool.eq_iff_iff]
  simp
  constructor
  · rintro rfl
    simp
    omega
  · intro h
    rw [← h]
    simp

theorem ge01 (f g : UInt8) (hf : Dg f.toNat) (hg : Dg g.toNat) : (Op.bytesLess [48, 49] [f, g] || [48, 49] == [f, g]) = decide (1 ≤ (f.toNat - 48) * 10 + (g.toNat - 48)) := by
  obtain ⟨f1, f2⟩ := hf
  obtain ⟨g1, g2⟩ := hg
  rw [Bool.eq_iff_iff]
  simp [Op.bytesLess, UInt8.lt_iff_toNat_lt, ← UInt8.toNat_inj]
  omega
theorem le12 (f g : UInt8) (hf : Dg f.toNat) (hg : Dg g.toNat) : (Op.bytesLess [f, g] [49, 50] || [f, g] == [49, 50]) = decide ((f.toNat - 48) * 10 + (g.toNat - 48) ≤ 12) := by
  obtain ⟨f1, f2⟩ := hf
  obtain ⟨g1, g2⟩ := hg
  rw [Bool.eq_iff_iff]
  simp [Op.bytesLess, UInt8.lt_iff_toNat_lt, ← UInt8.toNat_inj]
  omega

theorem is_size (s : ByteArray) (w : World) (h : s.size ≠ 7) :
    Calls Try.prog 15 #[.string s] w fun e w' => e = .returned (.bool false) ∧ Below w.heap.size w w' := by
  go_enter Try.func15, Try.ntmps15
  go_wp2
  go_ret
  exact ⟨rfl, Below.refl _ _⟩

theorem is_no4 (s : ByteArray) (w : World) (hs : s.size = 7) (h : at_ s 4 ≠ 45) :
    Calls Try.prog 15 #[.string s] w fun e w' => e = .returned (.bool false) ∧ Below w.heap.size w w' := by
  have e4 := idx s 4 (by omega)
  generalize at_ s 4 = n at *
  go_enter Try.func15, Try.ntmps15
  go_wp2
  go_ret
  exact ⟨rfl, Below.refl _ _⟩

set_option maxHeartbeats 1000000 in
theorem is_yes4 (s : ByteArray) (w : World) (hs : s.size = 7) (h : at_ s 4 = 45) :
    Calls Try.prog 15 #[.string s] w fun e w' => MonAns s w w' e := by
  have e4 := idx s 4 (by omega)
  rw [h] at e4
  have H4 : Hid (at_ s 4 = 45) := h
  have HS : Hid (s.size = 7) := hs
  clear h
  have hconv := Lib.run_convert_string_bytes (P := Try.prog) w 9 25 5 s Try.underlying9 Try.underlying25 Try.underlying5
  go_enter Try.func15, Try.ntmps15
  go_wp2
  have O0 := ownB_bytes w s
  have B0 := bytes_below w s
  clear hconv
  generalize Lib.bytesWorld w 5 s = wb at *
  rw [hs] at O0
  generalize grownCap w 7 0 5 = cap at *
  go_loopw [16, 3, 4] (fun i _ _ wr => ∃ k : Nat, k ≤ 7 ∧ i = .int .i64 k ∧ Below w.heap.size w wr ∧ OwnB wr w.heap.size 7 (fun i => at_ s i) ∧ Hid (∀ i, i < k → i ≠ 4 → Dg (at_ s i))) (fun i _ _ _ => 7 - (intOf i).toNat)
  case atStart => exact ⟨0, by omega, rfl, B0, O0, fun i hi => by omega⟩
  case round =>
    clear O0 B0
    obtain ⟨k, hk, rfl, hb, O, HD⟩ := hrel
    by_cases hlt : k < 7
    · have hc := O.cell k (by omega)
      have hf := O.fz k (by omega)
      by_cases hk4 : k = 4
      · subst hk4
        rw [H4.out] at hc
        go_wp2
        go_roundw
        case rel => exact ⟨5, by omega, rfl, hb, O, fun i h1 h2 => HD.out i (by omega) h2⟩
        case measure => simp [intOf]
      · by_cases hdk : Dg (at_ s k)
        · have HDk : Hid (Dg (at_ s k)) := hdk
          obtain ⟨d1, d2⟩ := hdk
          have HX : Hid (∀ i, i < k + 1 → i ≠ 4 → Dg (at_ s i)) := by
            intro i h1 h2
            by_cases e : i = k
            · subst e; exact HDk.out
            · exact HD.out i (by omega) h2
          generalize at_ s k = x at *
          go_wp2
          exact ⟨⟨k + 1, by omega, by go_num, hb, O, HX⟩, by simp [intOf]; omega⟩
        · have HN : Hid (¬ Mon s) := fun hm => hdk (hm.2.2.1 k hlt hk4)
          have b4 : ((k : Int) != 4) = true := by simp; omega
          by_cases d1 : 48 ≤ at_ s k
          · have d2 : ¬ at_ s k ≤ 57 := fun h => hdk ⟨d1, h⟩
            clear hdk
            generalize at_ s k = x at *
            go_wp2
            go_ret
            exact ⟨false, ⟨fun h => by simp at h, fun h => absurd h HN.out⟩, rfl, hb⟩
          · clear hdk
            generalize at_ s k = x at *
            go_wp2
            go_ret
            exact ⟨false, ⟨fun h => by simp at h, fun h => absurd h HN.out⟩, rfl, hb⟩
    · obtain rfl : k = 7 := by omega
      obtain ⟨f, g, hE, ef, eg⟩ := tail7 s hs
      have df : Dg f.toNat := by rw [ef]; exact HD.out 5 (by omega) (by omega)
      have dg : Dg g.toNat := by rw [eg]; exact HD.out 6 (by omega) (by omega)
      have t1 := ge01 f g df dg
      have t2 := le12 f g df dg
      rw [← hE, ef, eg] at t1 t2
      clear hE ef eg df dg
      by_cases c1 : 1 ≤ (at_ s 5 - 48) * 10 + (at_ s 6 - 48)
      · rw [decide_eq_true c1] at t1
        have C1 : Hid (1 ≤ (at_ s 5 - 48) * 10 + (at_ s 6 - 48)) := c1
        clear c1
        by_cases c2 : (at_ s 5 - 48) * 10 + (at_ s 6 - 48) ≤ 12
        · rw [decide_eq_true c2] at t2
          have C2 : Hid ((at_ s 5 - 48) * 10 + (at_ s 6 - 48) ≤ 12) := c2
          clear c2
          go_wp2
          go_ret
          exact ⟨true, ⟨fun _ => ⟨HS.out, H4.out, HD.out, C1.out, C2.out⟩, fun _ => rfl⟩, rfl, hb⟩
        · rw [decide_eq_false c2] at t2
          have C2 : Hid (¬ (at_ s 5 - 48) * 10 + (at_ s 6 - 48) ≤ 12) := c2
          clear c2
          go_wp2
          go_ret
          exact ⟨false, ⟨fun h => by simp at h, fun h => absurd h.2.2.2.2 C2.out⟩, rfl, hb⟩
      · rw [decide_eq_false c1] at t1
        have C1 : Hid (¬ 1 ≤ (at_ s 5 - 48) * 10 + (at_ s 6 - 48)) := c1
        clear c1 t2
        go_wp2
        go_ret
        exact ⟨false, ⟨fun h => by simp at h, fun h => absurd h.2.2.2.1 C1.out⟩, rfl, hb⟩

theorem is_any (s : ByteArray) (w : World) :
    Calls Try.prog 15 #[.string s] w fun e w' => MonAns s w w' e := by
  by_cases hs : s.size = 7
  · by_cases h4 : at_ s 4 = 45
    · exact is_yes4 s w hs h4
    · refine (is_no4 s w hs h4).mono ?_
      rintro e w' ⟨rfl, hb⟩
      exact ⟨false, ⟨fun h => by simp at h, fun h => absurd h.2.1 h4⟩, rfl, hb⟩
  · refine (is_size s w hs).mono ?_
    rintro e w' ⟨rfl, hb⟩
    exact ⟨false, ⟨fun h => by simp at h, fun h => absurd h.1 hs⟩, rfl, hb⟩

theorem zzis_any (s : ByteArray) (w : World) :
    Calls Try.prog 7 #[.string s] w fun e w' => MonAns s w w' e := by
  go_enter Try.func7, Try.ntmps7
  go_wp2_with (go_at_call 15; refine (is_any s w).mono ?_; rintro e w1 ⟨r, hr, rfl, b1⟩)
  go_ret
  exact ⟨r, hr, rfl, b1⟩

/-! ### the law: a written month -/
theorem month_size (y m : Nat) : (⟨(monthL y m).toArray⟩ : ByteArray).size = 7 := by simp [ByteArray.size, monthL, padL]
theorem month_list (y m : Nat) : monthL y m = [dig (y / 1000), dig (y / 100), dig (y / 10), dig y, 45, dig (m / 10), dig m] := by
  simp [monthL, padL, List.range, List.range.loop]
theorem month_at (y m : Nat) : at_ ⟨(monthL y m).toArray⟩ 0 = 48 + y / 1000 % 10 ∧ at_ ⟨(monthL y m).toArray⟩ 1 = 48 + y / 100 % 10 ∧ at_ ⟨(monthL y m).toArray⟩ 2 = 48 + y / 10 % 10 ∧ at_ ⟨(monthL y m).toArray⟩ 3 = 48 + y % 10 ∧
    at_ ⟨(monthL y m).toArray⟩ 4 = 45 ∧ at_ ⟨(monthL y m).toArray⟩ 5 = 48 + m / 10 % 10 ∧ at_ ⟨(monthL y m).toArray⟩ 6 = 48 + m % 10 := by
  rw [month_list]
  refine ⟨dig_nat _, dig_nat _, dig_nat _, dig_nat _, rfl, dig_nat _, dig_nat _⟩

theorem mon_month (y m : Nat) (hm : m ≤ 99) : Mon ⟨(monthL y m).toArray⟩ ↔ 1 ≤ m ∧ m ≤ 12 := by
  obtain ⟨h0, h1, h2, h3, h4, h5, h6⟩ := month_at y m
  constructor
  · rintro ⟨_, _, _, l, u⟩
    rw [h5, h6] at l u
    omega
  · rintro ⟨l, u⟩
    refine ⟨month_size y m, h4, fun i hi h4' => ?_, by rw [h5, h6]; omega, by rw [h5, h6]; omega⟩
    obtain rfl | rfl | rfl | rfl | rfl | rfl : i = 0 ∨ i = 1 ∨ i = 2 ∨ i = 3 ∨ i = 5 ∨ i = 6 := by omega
    all_goals (unfold Dg; first | (rw [h0]; omega) | (rw [h1]; omega) | (rw [h2]; omega) | (rw [h3]; omega) | (rw [h5]; omega) | (rw [h6]; omega))

end Go.Proofs.Qxb6605273a
