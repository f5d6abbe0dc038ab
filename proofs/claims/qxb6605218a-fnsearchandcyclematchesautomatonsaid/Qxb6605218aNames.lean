/-
  reader.names (29), said of the automaton.
-/
import Derived.Test.Qxb6605218aAut
import Derived.Test.Qxb6605218aArgs
namespace Go.Proofs.Qxb6605218a
open Go.RowKit
set_option linter.unusedVariables false

/-- what names answers from p on: (j, ok), said of the automaton -/
structure NamesIs (ks : List Int) (ts : List ByteArray) (n p j : Nat) (ok : Bool) : Prop where
  le : j ≤ n
  no : ok = false → ∀ i0 c, autF ks ts n i0 (n + 1 - p) p 4 c = ((j : Int), false)
  yes : ok = true → markB ks ts (j : Int) ⟨#[44]⟩ = false ∧ ∀ i0 c, autF ks ts n i0 (n + 1 - p) p 4 c = autF ks ts n i0 (n + 1 - j) j 5 c

theorem kind_lt {ks : List Int} {p : Nat} {k : Int} (h : kindB ks (p : Int) k = true) : p < ks.length := by
  simp [kindB] at h; omega
theorem name_lt {ks : List Int} {p : Nat} (h : nameB ks (p : Int) = true) : p < ks.length := by
  unfold nameB at h
  rw [Bool.or_eq_true] at h
  rcases h with h | h <;> exact kind_lt h
theorem mark_lt {ks : List Int} {ts : List ByteArray} {p : Nat} {m : ByteArray} (h : markB ks ts (p : Int) m = true) : p < ks.length := by
  unfold markB at h
  rw [Bool.and_eq_true] at h
  exact kind_lt h.1
theorem kw_lt {ks : List Int} {ts : List ByteArray} {p : Nat} {m : ByteArray} (h : kwB ks ts (p : Int) m = true) : p < ks.length := by
  unfold kwB at h
  rw [Bool.and_eq_true] at h
  exact kind_lt h.1

set_option maxHeartbeats 2000000 in
theorem names_any (ks : List Int) (ts : List ByteArray) (cs : List Int) (a3 a4 : Option Addr) (n nc : Nat) (q : Int) (p : Nat) (w : World) (hq : q = (p : Int)) (hp : p ≤ n) (hn : ks.length = n) (hm : n ≤ 1048576) (T : TV w a3 n ks ts) (V : SV w a4 nc (iv cs)) :
    Calls Try.prog 29 #[.agg #[.slice a3 n n, .slice a4 nc nc], .int .i64 q] w fun e w' => ∃ (j : Nat) (ok : Bool), e = .returned (.tuple #[.int .i64 (j : Int), .bool ok]) ∧ Below w.heap.size w w' ∧ NamesIs ks ts n p j ok := by
  subst hq
  have R0 := rd_start (n := n) (nc := nc) 37 T V
  have HL : Hid (ks.length = n) := hn
  clear T V hn
  go_enter Try.func29, Try.ntmps29
  go_wp2
  go_loopw [1] (fun ii wr => ∃ k : Nat, k ≤ n ∧ ii = .int .i64 k ∧ Rd ks ts cs a3 a4 n nc w wr ∧ Hid (∀ i0 c, autF ks ts n i0 (n + 1 - p) p 4 c = autF ks ts n i0 (n + 1 - k) k 4 c)) (fun ii _ => n + 2 - (intOf ii).toNat)
  case atStart => exact ⟨p, hp, rfl, R0, fun _ _ => rfl⟩
  case round =>
    clear R0
    obtain ⟨k, hk, rfl, R, HA⟩ := hrel
    obtain ⟨y0, y1⟩ := R.cells
    have hgw := R.hi
    have hf : n + 1 - k = (n + 1 - (k + 1)) + 1 := by omega
    cases hN : nameB ks (k : Int)
    · have HNm : Hid (nameB ks (k : Int) = false) := hN
      have HI : Hid (NamesIs ks ts n p k false) := ⟨hk, fun _ i0 c => by rw [HA.out i0 c, hf, a4n hN], fun h => by cases h⟩
      clear HA hN hf
      go_wp2_with (go_at_call 30; refine (isName_any ks ts _ _ _ _ _ _ HL.out hm R.tv).mono ?_; rintro e w1 ⟨rfl, hb⟩; replace R := R.on hb; rw [HNm.out])
      go_ret2
      exact ⟨k, false, rfl, R.bel, HI.out⟩
    · have HNm : Hid (nameB ks (k : Int) = true) := hN
      have hkn : k < n := by have := name_lt hN; have := HL.out; omega
      have hf2 : n + 1 - (k + 1) = (n + 1 - (k + 2)) + 1 := by omega
      cases hC : markB ks ts ((k : Int) + 1) ⟨#[44]⟩
      · have HC : Hid (markB ks ts ((k : Int) + 1) ⟨#[44]⟩ = false) := hC
        have HI : Hid (NamesIs ks ts n p (k + 1) true) := ⟨by omega, (fun h => by cases h), fun _ => ⟨by rw [Int.natCast_add]; exact hC, fun i0 c => by rw [HA.out i0 c, hf, a4y hN]⟩⟩
        clear HA hN hf hf2 hC
        go_wp2_with (first | (go_at_call 30; refine (isName_any ks ts _ _ _ _ _ _ HL.out hm R.tv).mono ?_; rintro e w1 ⟨rfl, hb⟩; replace R := R.on hb; obtain ⟨y0, y1⟩ := R.cells; clear hb; rw [HNm.out]) | (go_at_call 27; refine (punct_any ks ts _ _ _ _ _ _ _ HL.out hm R.tv).mono ?_; rintro e w1 ⟨rfl, hb⟩; replace R := R.on hb; rw [HC.out]))
        go_ret2
        exact ⟨k + 1, true, by go_num, R.bel, HI.out⟩
      · have HC : Hid (markB ks ts ((k : Int) + 1) ⟨#[44]⟩ = true) := hC
        have hC' : markB ks ts ((k + 1 : Nat) : Int) ⟨#[44]⟩ = true := by rw [Int.natCast_add]; exact hC
        have hk1 : k + 1 < n := by have := mark_lt hC'; have := HL.out; omega
        have HN : Hid (∀ i0 c, autF ks ts n i0 (n + 1 - p) p 4 c = autF ks ts n i0 (n + 1 - (k + 2)) (k + 2) 4 c) := by
          show ∀ i0 c, autF ks ts n i0 (n + 1 - p) p 4 c = autF ks ts n i0 (n + 1 - (k + 2)) (k + 2) 4 c
          intro i0 c
          rw [HA.out i0 c, hf, a4y hN, hf2, a5c hC']
        clear HA hN hf hf2 hC hC'
        go_wp2_with (first | (go_at_call 30; refine (isName_any ks ts _ _ _ _ _ _ HL.out hm R.tv).mono ?_; rintro e w1 ⟨rfl, hb⟩; replace R := R.on hb; obtain ⟨y0, y1⟩ := R.cells; clear hb; rw [HNm.out]) | (go_at_call 27; refine (punct_any ks ts _ _ _ _ _ _ _ HL.out hm R.tv).mono ?_; rintro e w1 ⟨rfl, hb⟩; replace R := R.on hb; rw [HC.out]))
        go_roundw
        case rel => exact ⟨k + 2, by omega, by go_num, R, HN⟩
        case measure => simp [intOf]; omega

end Go.Proofs.Qxb6605218a
