/-
  The walk of FnSearchAndCycleMatchesAutomaton (4).
-/
import Derived.Test.Qxb6605218aScBreadth
import Derived.Test.Qxb6605218aScDepth
import Derived.Test.Qxb6605218aScModel
import Derived.Test.Qxb6605218aBytes
namespace Go.Proofs.Qxb6605218a
open Go.RowKit
set_option linter.unusedVariables false

theorem word_out (ks : List Int) (ts : List ByteArray) (p : Int) (h : p < 0 ∨ (ks.length : Int) ≤ p) : wordBA ks ts p = ⟨#[]⟩ := by
  have hj : decide (0 ≤ p ∧ p < (ks.length : Int)) = false := by simp; omega
  unfold wordBA kindB
  rw [hj]; rfl

set_option maxRecDepth 100000 in
set_option maxHeartbeats 1000000 in
theorem sc_out (ks : List Int) (ts : List ByteArray) (cs : List Int) (a3 a4 : Option Addr) (n nc : Nat) (i : Int) (w : World) (hn : ks.length = n) (hm : n ≤ 1048576) (hsz : ∀ i, i < n → (ts.getD i ByteArray.empty).size ≤ 1048576) (T : TV w a3 n ks ts) (V : SV w a4 nc (iv cs)) (ho : i < 0 ∨ (n : Int) ≤ i) :
    Calls Try.prog 22 #[.agg #[.slice a3 n n, .slice a4 nc nc], .int .i64 i] w fun e w' => e = .returned (.tuple #[.int .i64 i, .bool true]) ∧ Below w.heap.size w w' := by
  have R := rd_start (n := n) (nc := nc) 39 T V
  have HL : Hid (ks.length = n) := hn
  have HSZ : Hid (∀ i, i < n → (ts.getD i ByteArray.empty).size ≤ 1048576) := hsz
  have HW : Hid (wordBA ks ts i = ⟨#[]⟩) := word_out ks ts i (by rw [hn]; exact ho)
  clear T V hn hsz ho
  go_enter Try.func22, Try.ntmps22
  go_wp2_with (go_at_call 28; refine (word_any ks ts _ _ _ _ _ _ HL.out hm HSZ.out R.tv).mono ?_; rintro e w1 ⟨rfl, hb⟩; replace R := R.on hb; obtain ⟨y0, y1⟩ := R.cells; clear hb; rw [HW.out])
  go_ret2
  exact ⟨rfl, R.bel⟩

/-- what both answer -/
def scB (ks : List Int) (ts : List ByteArray) (n : Nat) (i : Int) : Int × Bool :=
  if 0 ≤ i ∧ i < (n : Int) then autF ks ts n i.toNat (n + 1 - i.toNat) i.toNat 0 false else (i, true)

theorem sc_any (ks : List Int) (ts : List ByteArray) (cs : List Int) (a3 a4 : Option Addr) (n nc : Nat) (i : Int) (w : World) (hn : ks.length = n) (hm : n ≤ 1048576) (hsz : ∀ i, i < n → (ts.getD i ByteArray.empty).size ≤ 1048576) (T : TV w a3 n ks ts) (V : SV w a4 nc (iv cs)) :
    Calls Try.prog 22 #[.agg #[.slice a3 n n, .slice a4 nc nc], .int .i64 i] w fun e w' => e = .returned (.tuple #[.int .i64 (scB ks ts n i).1, .bool (scB ks ts n i).2]) ∧ Below w.heap.size w w' := by
  by_cases h : 0 ≤ i ∧ i < (n : Int)
  · obtain ⟨i0, rfl⟩ := Int.eq_ofNat_of_zero_le h.1
    have e : scB ks ts n (i0 : Int) = autF ks ts n i0 (n + 1 - i0) i0 0 false := by
      unfold scB; rw [if_pos h, Int.toNat_natCast]
    rw [e]
    cases hS : kwB ks ts ((i0 : Nat) : Int) ⟨#[83, 69, 65, 82, 67, 72]⟩
    · exact sc_plain ks ts cs a3 a4 n nc i0 w hn hm hsz T V (by omega) hS
    · cases hB : kwB ks ts ((i0 + 1 : Nat) : Int) ⟨#[66, 82, 69, 65, 68, 84, 72]⟩
      · cases hD : kwB ks ts ((i0 + 1 : Nat) : Int) ⟨#[68, 69, 80, 84, 72]⟩
        · exact sc_none ks ts cs a3 a4 n nc i0 w hn hm hsz T V (by omega) hS hB hD
        · exact sc_depth ks ts cs a3 a4 n nc i0 w hn hm hsz T V (by omega) hS hB hD
      · exact sc_breadth ks ts cs a3 a4 n nc i0 w hn hm hsz T V (by omega) hS hB
  · unfold scB
    rw [if_neg h]
    exact sc_out ks ts cs a3 a4 n nc i w hn hm hsz T V (by omega)

theorem sc_model_any (ks : List Int) (ts : List ByteArray) (a a2 : Option Addr) (n cap cap2 : Nat) (i : Int) (w : World) (hn : ks.length = n) (hm : n ≤ 1048576) (hsz : ∀ i, i < n → (ts.getD i ByteArray.empty).size ≤ 1048576) (V : SV w a n (iv ks)) (V2 : SV w a2 n (sv ts)) :
    Calls Try.prog 15 #[.slice a n cap, .slice a2 n cap2, .int .i64 i] w fun e w' => e = .returned (.tuple #[.int .i64 (scB ks ts n i).1, .bool (scB ks ts n i).2]) ∧ w' = w := by
  by_cases h : 0 ≤ i ∧ i < (n : Int)
  · obtain ⟨i0, rfl⟩ := Int.eq_ofNat_of_zero_le h.1
    have e : scB ks ts n (i0 : Int) = autF ks ts n i0 (n + 1 - i0) i0 0 false := by
      unfold scB; rw [if_pos h, Int.toNat_natCast]
    rw [e]
    exact sc_model_in ks ts a a2 n cap cap2 i0 w hn hm hsz V V2 (by omega)
  · unfold scB
    rw [if_neg h]
    exact sc_model_out ks ts a a2 n cap cap2 i w hm (by omega)

set_option maxHeartbeats 1000000 in
theorem zzsc_any (ks : List Int) (ts : List ByteArray) (cs : List Int) (a a2 a4 : Option Addr) (n nc cap cap2 : Nat) (i : Int) (w : World) (hn : ks.length = n) (hm : n ≤ 1048576) (hsz : ∀ i, i < n → (ts.getD i ByteArray.empty).size ≤ 1048576) (V : SV w a n (iv ks)) (V2 : SV w a2 n (sv ts)) (V3 : SV w a4 nc (iv cs)) :
    Calls Try.prog 14 #[.slice a n cap, .slice a2 n cap2, .slice a4 nc nc, .int .i64 i] w fun e w' => e = .returned (.tuple #[.int .i64 (scB ks ts n i).1, .bool (scB ks ts n i).2]) ∧ Below w.heap.size w w' := by
  have HV : Hid (SV w a n (iv ks)) := V
  have HV2 : Hid (SV w a2 n (sv ts)) := V2
  have HV3 : Hid (SV w a4 nc (iv cs)) := V3
  have HL : Hid (ks.length = n) := hn
  have HSZ : Hid (∀ i, i < n → (ts.getD i ByteArray.empty).size ≤ 1048576) := hsz
  clear V V2 V3 hn hsz
  go_enter Try.func14, Try.ntmps14
  go_wp2_with (first | (go_at_call 19; refine (toks_any ks ts _ _ _ _ _ _ hm HV.out HV2.out).mono ?_; rintro e w1 ⟨a3, rfl, hb1, T⟩) | (go_at_call 22; refine (sc_any ks ts cs _ _ _ _ _ _ HL.out hm HSZ.out T ((HV3.out).on hb1)).mono ?_; rintro e w2 ⟨rfl, hb2⟩))
  go_ret2
  exact ⟨rfl, hb1.trans (hb2.mono hb1.size)⟩

set_option maxHeartbeats 1000000 in
theorem walk_sc (ks : List Int) (ts : List ByteArray) (cs : List Int) (a a2 a3 : Option Addr) (n cap n2 cap2 n3 cap3 : Nat) (i : Int) (w : World) (hi0 : -9223372036854775808 ≤ i) (hi1 : i ≤ 9223372036854775807)
    (hn : ks.length = n) (hn2 : ts.length = n2) (hn3 : cs.length = n3) (hm : n ≤ maxLen) (hm2 : n2 ≤ maxLen) (hm3 : n3 ≤ maxLen) (hts : ∀ i, (ts.getD i ByteArray.empty).size ≤ maxLen)
    (na : a = none → n = 0 ∧ cap = 0) (na2 : a2 = none → n2 = 0 ∧ cap2 = 0) (na3 : a3 = none → n3 = 0 ∧ cap3 = 0) (V : SV w a n (iv ks)) (V2 : SV w a2 n2 (sv ts)) (V3 : SV w a3 n3 (iv cs)) :
    Calls Try.prog 4 #[.slice a n cap, .slice a2 n2 cap2, .slice a3 n3 cap3, .int .i64 i] w fun e w' => e = .returned (.bool true) ∧ Below w.heap.size w w' := by
  have HV : Hid (SV w a n (iv ks)) := V
  have HV2 : Hid (SV w a2 n2 (sv ts)) := V2
  have HV3 : Hid (SV w a3 n3 (iv cs)) := V3
  have HL : Hid (ks.length = n) := hn
  have HN : Hid (a = none → n = 0 ∧ cap = 0) := na
  have HN2 : Hid (a2 = none → n2 = 0 ∧ cap2 = 0) := na2
  have HN3 : Hid (a3 = none → n3 = 0 ∧ cap3 = 0) := na3
  have HTS : Hid (∀ i, (ts.getD i ByteArray.empty).size ≤ maxLen) := hts
  have HM : Hid (n ≤ maxLen ∧ n2 ≤ maxLen ∧ n3 ≤ maxLen) := ⟨hm, hm2, hm3⟩
  clear V V2 V3 hn na na2 na3 hts hm hm2 hm3
  go_enter Try.func4, Try.ntmps4
  go_wp2_with fail
  refine (bytes13 _ _ _ _ _ _ _ _ _ ts _ _ HM.out.1 HM.out.2.1 HM.out.2.2 HTS.out HV2.out).mono ?_
  rintro e w' ⟨rfl, (rfl | ⟨rfl, hsmall⟩)⟩
  · go_wp2
    go_ret
    exact ⟨rfl, Below.refl _ _⟩
  · obtain ⟨s1, s2, s3, s4⟩ := hsmall
    have HS4 : Hid (∀ i, i < n2 → (ts.getD i ByteArray.empty).size ≤ 1048576) := s4
    clear s4
    go_wp2_with fail
    refine (bytes7 _ _ _ _ _ _ _ _ _ ts _ s1 s2 s3 HS4.out HV2.out).mono ?_
    rintro e w' ⟨rfl, r, rfl, (hr | hr)⟩
    · go_wp2
      go_ret
      exact ⟨rfl, Below.refl _ _⟩
    · by_cases hlen : n = n2
      · subst hlen
        have hlb : ((n : Int) != (n : Int)) = false := by simp
        go_wp2_with fail
        refine (copyInts_any _ _ _ ks _ s1 HN.out HV.out).mono ?_
        rintro e w2 ⟨a', rfl, k2, V⟩
        go_wp2_with fail
        refine (copyStrs_any _ _ _ ts _ s1 HN2.out ((HV2.out).on k2)).mono ?_
        rintro e w3 ⟨a2', rfl, hb3, V2⟩
        have k3 : Below w'.heap.size w' w3 := k2.trans (hb3.mono k2.size)
        go_wp2_with fail
        refine (copyInts_any _ _ _ cs _ s3 HN3.out ((HV3.out).on k3)).mono ?_
        rintro e w4 ⟨a3', rfl, hb4, V3⟩
        have k4 : Below w'.heap.size w' w4 := k3.trans (hb4.mono k3.size)
        have V' := (V.on hb3).on hb4
        have V2' := V2.on hb4
        clear V V2
        go_wp2_with fail
        refine (zzsc_any ks ts cs _ _ _ _ _ _ _ _ _ HL.out s1 HS4.out V' V2' V3).mono ?_
        rintro e w5 ⟨rfl, hb5⟩
        have k5 : Below w'.heap.size w' w5 := k4.trans (hb5.mono k4.size)
        go_wp2_with fail
        refine (sc_model_any ks ts _ _ _ _ _ _ _ HL.out s1 HS4.out (V'.on hb5) (V2'.on hb5)).mono ?_
        rintro e w6 ⟨rfl, rfl⟩
        go_wp2
        go_ret
        exact ⟨rfl, k5⟩
      · have hlb : ((n : Int) != (n2 : Int)) = true := by simp; omega
        clear hlen
        go_wp2
        go_ret
        exact ⟨rfl, Below.refl _ _⟩

end Go.Proofs.Qxb6605218a
