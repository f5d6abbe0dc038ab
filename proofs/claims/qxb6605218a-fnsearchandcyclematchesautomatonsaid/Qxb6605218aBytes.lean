/-
  The bounds on lengths (6, 13, 7).
-/
import Derived.Test.Qxb6605218aBase
namespace Go.Proofs.Qxb6605218a
open Go.RowKit
set_option linter.unusedVariables false

/-- all three lengths are small, and those of the texts -/
def Small (n n2 n3 : Nat) (ts : List ByteArray) : Prop := n ≤ 1048576 ∧ n2 ≤ 1048576 ∧ n3 ≤ 1048576 ∧ ∀ i, i < n2 → (ts.getD i ByteArray.empty).size ≤ 1048576

set_option maxHeartbeats 1000000 in
theorem bytes6 (a a2 a3 : Option Addr) (n cap n2 cap2 n3 cap3 : Nat) (ts : List ByteArray) (i : Int) (w : World) (hm : n ≤ maxLen) (hm2 : n2 ≤ maxLen) (hm3 : n3 ≤ maxLen) (hts : ∀ i, (ts.getD i ByteArray.empty).size ≤ maxLen) (V2 : SV w a2 n2 (sv ts)) :
    Calls Try.prog 6 #[.slice a n cap, .slice a2 n2 cap2, .slice a3 n3 cap3, .int .i64 i] w fun e w' => w' = w ∧ (e = .returned (.bool false) ∨ (e = .returned (.bool true) ∧ Small n n2 n3 ts)) := by
  have HT : Hid (∀ i, (ts.getD i ByteArray.empty).size ≤ maxLen) := hts
  have HV : Hid (SV w a2 n2 (sv ts)) := V2
  clear hts V2
  unfold maxLen at hm hm2 hm3
  by_cases h1 : n ≤ 1048576
  · by_cases h2 : n2 ≤ 1048576
    · by_cases h12 : n + n2 ≤ 1048576
      · have t1 : decide ((1048576 : Int) < (n : Int)) = false := by simp; omega
        have t2 : decide ((1048576 : Int) < (n2 : Int)) = false := by simp; omega
        have t3 : decide ((1048576 : Int) < (n : Int) + (n2 : Int)) = false := by simp; omega
        go_enter Try.func6, Try.ntmps6
        go_wp2
        go_loop [9, 10] (fun z ii => ∃ (k : Nat) (s : Int), k ≤ n2 ∧ ii = .int .i64 k ∧ z = .int .i64 s ∧ 0 ≤ s ∧ s ≤ 1048576 ∧ Hid (∀ i, i < k → (ts.getD i ByteArray.empty).size ≤ 1048576)) (fun _ ii => n2 - (intOf ii).toNat)
        case atStart => exact ⟨0, (n : Int) + (n2 : Int), by omega, rfl, rfl, by omega, by omega, by show ∀ i, i < 0 → _; omega⟩
        case round =>
          obtain ⟨k, s, hk, rfl, rfl, hs0, hs1, hall⟩ := hrel
          by_cases hlt : k < n2
          · obtain ⟨b, off, rfl, hc⟩ := (HV.out).at k hlt
            have hsz := HT.out k
            unfold maxLen at hsz
            unfold sv at hc
            have HN : Hid ((ts.getD k ByteArray.empty).size ≤ 1048576 → ∀ i, i < k + 1 → (ts.getD i ByteArray.empty).size ≤ 1048576) := by
              show (ts.getD k ByteArray.empty).size ≤ 1048576 → ∀ i, i < k + 1 → (ts.getD i ByteArray.empty).size ≤ 1048576
              intro h i hi
              by_cases e : i = k
              · subst e; exact h
              · exact hall.out i (by omega)
            generalize hx : ts.getD k ByteArray.empty = x at hc hsz HN
            clear hx
            by_cases c1 : x.size ≤ 1048576
            · by_cases c2 : s + x.size ≤ 1048576
              · go_wp2
                go_round
                case rel => exact ⟨k + 1, s + x.size, by omega, by go_num, rfl, by omega, c2, HN.out c1⟩
                case measure => simp [intOf]; omega
              · go_wp2
                go_ret
                exact ⟨rfl, .inl rfl⟩
            · go_wp2
              go_ret
              exact ⟨rfl, .inl rfl⟩
          · by_cases h3 : n3 ≤ 1048576
            · by_cases h4 : s + n3 ≤ 1048576
              · go_wp2
                go_ret
                exact ⟨rfl, .inr ⟨rfl, ⟨h1, h2, h3, fun i hi => hall.out i (by omega)⟩⟩⟩
              · go_wp2
                go_ret
                exact ⟨rfl, .inl rfl⟩
            · go_wp2
              go_ret
              exact ⟨rfl, .inl rfl⟩
      · go_enter Try.func6, Try.ntmps6
        go_wp2
        go_ret
        exact ⟨rfl, .inl rfl⟩
    · go_enter Try.func6, Try.ntmps6
      go_wp2
      go_ret
      exact ⟨rfl, .inl rfl⟩
  · go_enter Try.func6, Try.ntmps6
    go_wp2
    go_ret
    exact ⟨rfl, .inl rfl⟩

set_option maxHeartbeats 1000000 in
theorem bytes13 (a a2 a3 : Option Addr) (n cap n2 cap2 n3 cap3 : Nat) (ts : List ByteArray) (i : Int) (w : World) (hm : n ≤ maxLen) (hm2 : n2 ≤ maxLen) (hm3 : n3 ≤ maxLen) (hts : ∀ i, (ts.getD i ByteArray.empty).size ≤ maxLen) (V2 : SV w a2 n2 (sv ts)) :
    Calls Try.prog 13 #[.slice a n cap, .slice a2 n2 cap2, .slice a3 n3 cap3, .int .i64 i] w fun e w' => w' = w ∧ (e = .returned (.bool false) ∨ (e = .returned (.bool true) ∧ Small n n2 n3 ts)) := by
  have HT : Hid (∀ i, (ts.getD i ByteArray.empty).size ≤ maxLen) := hts
  have HV : Hid (SV w a2 n2 (sv ts)) := V2
  clear hts V2
  unfold maxLen at hm hm2 hm3
  by_cases h1 : n ≤ 1048576
  · by_cases h2 : n2 ≤ 1048576
    · by_cases h12 : n + n2 ≤ 1048576
      · have t1 : decide ((1048576 : Int) < (n : Int)) = false := by simp; omega
        have t2 : decide ((1048576 : Int) < (n2 : Int)) = false := by simp; omega
        have t3 : decide ((1048576 : Int) < (n : Int) + (n2 : Int)) = false := by simp; omega
        go_enter Try.func13, Try.ntmps13
        go_wp2
        go_loop [9, 10] (fun z ii => ∃ (k : Nat) (s : Int), k ≤ n2 ∧ ii = .int .i64 k ∧ z = .int .i64 s ∧ 0 ≤ s ∧ s ≤ 1048576 ∧ Hid (∀ i, i < k → (ts.getD i ByteArray.empty).size ≤ 1048576)) (fun _ ii => n2 - (intOf ii).toNat)
        case atStart => exact ⟨0, (n : Int) + (n2 : Int), by omega, rfl, rfl, by omega, by omega, by show ∀ i, i < 0 → _; omega⟩
        case round =>
          obtain ⟨k, s, hk, rfl, rfl, hs0, hs1, hall⟩ := hrel
          by_cases hlt : k < n2
          · obtain ⟨b, off, rfl, hc⟩ := (HV.out).at k hlt
            have hsz := HT.out k
            unfold maxLen at hsz
            unfold sv at hc
            have HN : Hid ((ts.getD k ByteArray.empty).size ≤ 1048576 → ∀ i, i < k + 1 → (ts.getD i ByteArray.empty).size ≤ 1048576) := by
              show (ts.getD k ByteArray.empty).size ≤ 1048576 → ∀ i, i < k + 1 → (ts.getD i ByteArray.empty).size ≤ 1048576
              intro h i hi
              by_cases e : i = k
              · subst e; exact h
              · exact hall.out i (by omega)
            generalize hx : ts.getD k ByteArray.empty = x at hc hsz HN
            clear hx
            by_cases c1 : x.size ≤ 1048576
            · by_cases c2 : s + x.size ≤ 1048576
              · go_wp2
                go_round
                case rel => exact ⟨k + 1, s + x.size, by omega, by go_num, rfl, by omega, c2, HN.out c1⟩
                case measure => simp [intOf]; omega
              · go_wp2
                go_ret
                exact ⟨rfl, .inl rfl⟩
            · go_wp2
              go_ret
              exact ⟨rfl, .inl rfl⟩
          · by_cases h3 : n3 ≤ 1048576
            · by_cases h4 : s + n3 ≤ 1048576
              · go_wp2
                go_ret
                exact ⟨rfl, .inr ⟨rfl, ⟨h1, h2, h3, fun i hi => hall.out i (by omega)⟩⟩⟩
              · go_wp2
                go_ret
                exact ⟨rfl, .inl rfl⟩
            · go_wp2
              go_ret
              exact ⟨rfl, .inl rfl⟩
      · go_enter Try.func13, Try.ntmps13
        go_wp2
        go_ret
        exact ⟨rfl, .inl rfl⟩
    · go_enter Try.func13, Try.ntmps13
      go_wp2
      go_ret
      exact ⟨rfl, .inl rfl⟩
  · go_enter Try.func13, Try.ntmps13
    go_wp2
    go_ret
    exact ⟨rfl, .inl rfl⟩

set_option maxHeartbeats 1000000 in
theorem bytes7 (a a2 a3 : Option Addr) (n cap n2 cap2 n3 cap3 : Nat) (ts : List ByteArray) (w : World) (hm : n ≤ 1048576) (hm2 : n2 ≤ 1048576) (hm3 : n3 ≤ 1048576) (hts : ∀ i, i < n2 → (ts.getD i ByteArray.empty).size ≤ 1048576) (V2 : SV w a2 n2 (sv ts)) :
    Calls Try.prog 7 #[.slice a n cap, .slice a2 n2 cap2, .slice a3 n3 cap3] w fun e w' => w' = w ∧ ∃ r : Int, e = .returned (.int .i64 r) ∧ (1048576 < r ∨ r ≤ 1048576) := by
  have HT : Hid (∀ i, i < n2 → (ts.getD i ByteArray.empty).size ≤ 1048576) := hts
  have HV : Hid (SV w a2 n2 (sv ts)) := V2
  clear hts V2
  by_cases h1 : n ≤ 131072
  · by_cases h2 : n2 ≤ 131072
    · by_cases h3 : n3 ≤ 131072
      · have t1 : decide ((131072 : Int) < (n : Int)) = false := by simp; omega
        have t2 : decide ((131072 : Int) < (n2 : Int)) = false := by simp; omega
        have t3 : decide ((131072 : Int) < (n3 : Int)) = false := by simp; omega
        go_enter Try.func7, Try.ntmps7
        go_wp2
        go_loop [7, 8] (fun z ii => ∃ (k : Nat) (s : Int), k ≤ n2 ∧ ii = .int .i64 k ∧ z = .int .i64 s ∧ 0 ≤ s ∧ s ≤ 8388608) (fun _ ii => n2 - (intOf ii).toNat)
        case atStart => exact ⟨0, 8 * (n : Int) + 8 * (n3 : Int) + 16 * (n2 : Int), by omega, rfl, rfl, by omega, by omega⟩
        case round =>
          obtain ⟨k, s, hk, rfl, rfl, hs0, hs1⟩ := hrel
          by_cases hlt : k < n2
          · obtain ⟨b, off, rfl, hc⟩ := (HV.out).at k hlt
            have hsz := HT.out k hlt
            unfold sv at hc
            generalize ts.getD k ByteArray.empty = x at *
            by_cases c2 : s + x.size ≤ 1048576
            · go_wp2
              go_round
              case rel => exact ⟨k + 1, s + x.size, by omega, by go_num, rfl, by omega, by omega⟩
              case measure => simp [intOf]; omega
            · go_wp2
              go_ret
              exact ⟨rfl, _, rfl, by omega⟩
          · go_wp2
            go_ret
            exact ⟨rfl, _, rfl, by omega⟩
      · go_enter Try.func7, Try.ntmps7
        go_wp2
        go_ret
        exact ⟨rfl, _, rfl, by omega⟩
    · go_enter Try.func7, Try.ntmps7
      go_wp2
      go_ret
      exact ⟨rfl, _, rfl, by omega⟩
  · go_enter Try.func7, Try.ntmps7
    go_wp2
    go_ret
    exact ⟨rfl, _, rfl, by omega⟩

end Go.Proofs.Qxb6605218a
