/-
  The walk of FnArgumentsCountsTopLevelCommas (3).
-/
import Derived.Test.Qxb6605218aArgs
import Derived.Test.Qxb6605218aBytes
namespace Go.Proofs.Qxb6605218a
open Go.RowKit
set_option linter.unusedVariables false

/-- the number of arguments at i -/
def argsB (ks : List Int) (ts : List ByteArray) (n : Nat) (i : Int) : Int :=
  if -1 ≤ i ∧ i < (n : Int) - 1 then (if mkB ks ts (i + 1).toNat [40] then modF ks ts (n - ((i + 1).toNat + 1)) ((i + 1).toNat + 1) 0 0 1 true else 1) else 1

theorem args_any (ks : List Int) (ts : List ByteArray) (cs : List Int) (a3 a4 : Option Addr) (n nc : Nat) (i : Int) (w : World) (hi0 : -9223372036854775808 ≤ i) (hi1 : i ≤ 9223372036854775807) (hn : ks.length = n) (hm : n ≤ 1048576) (hm3 : nc ≤ 1048576) (T : TV w a3 n ks ts) (V : SV w a4 nc (iv cs)) (hfit : fitF ks ts cs nc n 0 [] = true) :
    Calls Try.prog 20 #[.agg #[.slice a3 n n, .slice a4 nc nc], .int .i64 i] w fun e w' => e = .returned (.int .i64 (argsB ks ts n i)) ∧ Below w.heap.size w w' := by
  by_cases h : -1 ≤ i ∧ i < (n : Int) - 1
  · have hw : wrap64 (i + 1) = i + 1 := by unfold wrap64; omega
    have ei : (((i + 1).toNat : Nat) : Int) = i + 1 := by omega
    unfold argsB
    rw [if_pos h]
    cases hM : mkB ks ts (i + 1).toNat [40]
    · rw [if_neg (by decide)]
      refine args_no ks ts cs a3 a4 n nc i (i + 1) w hn hm T V hw ?_
      rw [← ei, mark_in ks ts _ 40 (by omega)]; exact hM
    · rw [if_pos rfl]
      exact args_yes ks ts cs a3 a4 n nc i (i + 1).toNat w hn hm hm3 T V (by omega) (by omega) hM hfit
  · unfold argsB
    rw [if_neg h]
    refine args_no ks ts cs a3 a4 n nc i _ w hn hm T V rfl (mark_out ks ts _ _ ?_)
    rw [hn]
    unfold wrap64
    omega

theorem model_any (ks : List Int) (ts : List ByteArray) (a a2 : Option Addr) (n cap cap2 : Nat) (i : Int) (w : World) (hn : ks.length = n) (hm : n ≤ 1048576) (V : SV w a n (iv ks)) (V2 : SV w a2 n (sv ts)) :
    Calls Try.prog 12 #[.slice a n cap, .slice a2 n cap2, .int .i64 i] w fun e w' => e = .returned (.int .i64 (argsB ks ts n i)) ∧ w' = w := by
  by_cases h : -1 ≤ i ∧ i < (n : Int) - 1
  · unfold argsB
    rw [if_pos h]
    exact model_in ks ts a a2 n cap cap2 i (i + 1).toNat w hn hm V V2 (by omega) (by omega)
  · unfold argsB
    rw [if_neg h]
    exact model_out ks ts a a2 n cap cap2 i w hm (by omega)

set_option maxHeartbeats 1000000 in
theorem zzargs_any (ks : List Int) (ts : List ByteArray) (cs : List Int) (a a2 a4 : Option Addr) (n nc cap cap2 : Nat) (i : Int) (w : World) (hi0 : -9223372036854775808 ≤ i) (hi1 : i ≤ 9223372036854775807) (hn : ks.length = n) (hm : n ≤ 1048576) (hm3 : nc ≤ 1048576) (V : SV w a n (iv ks)) (V2 : SV w a2 n (sv ts)) (V3 : SV w a4 nc (iv cs)) (hfit : fitF ks ts cs nc n 0 [] = true) :
    Calls Try.prog 11 #[.slice a n cap, .slice a2 n cap2, .slice a4 nc nc, .int .i64 i] w fun e w' => e = .returned (.int .i64 (argsB ks ts n i)) ∧ Below w.heap.size w w' := by
  have HV : Hid (SV w a n (iv ks)) := V
  have HV2 : Hid (SV w a2 n (sv ts)) := V2
  have HV3 : Hid (SV w a4 nc (iv cs)) := V3
  have HL : Hid (ks.length = n) := hn
  have HF : Hid (fitF ks ts cs nc n 0 [] = true) := hfit
  clear V V2 V3 hn hfit
  go_enter Try.func11, Try.ntmps11
  go_wp2_with (first | (go_at_call 19; refine (toks_any ks ts _ _ _ _ _ _ hm HV.out HV2.out).mono ?_; rintro e w1 ⟨a3, rfl, hb1, T⟩) | (go_at_call 20; refine (args_any ks ts cs _ _ _ _ _ _ hi0 hi1 HL.out hm hm3 T ((HV3.out).on hb1) HF.out).mono ?_; rintro e w2 ⟨rfl, hb2⟩))
  go_ret
  exact ⟨rfl, hb1.trans (hb2.mono hb1.size)⟩

set_option maxHeartbeats 1000000 in
theorem walk_args (ks : List Int) (ts : List ByteArray) (cs : List Int) (a a2 a3 : Option Addr) (n cap n2 cap2 n3 cap3 : Nat) (i : Int) (w : World) (hi0 : -9223372036854775808 ≤ i) (hi1 : i ≤ 9223372036854775807)
    (hn : ks.length = n) (hn2 : ts.length = n2) (hn3 : cs.length = n3) (hm : n ≤ maxLen) (hm2 : n2 ≤ maxLen) (hm3 : n3 ≤ maxLen) (hts : ∀ i, (ts.getD i ByteArray.empty).size ≤ maxLen)
    (na : a = none → n = 0 ∧ cap = 0) (na2 : a2 = none → n2 = 0 ∧ cap2 = 0) (na3 : a3 = none → n3 = 0 ∧ cap3 = 0) (V : SV w a n (iv ks)) (V2 : SV w a2 n2 (sv ts)) (V3 : SV w a3 n3 (iv cs)) :
    Calls Try.prog 3 #[.slice a n cap, .slice a2 n2 cap2, .slice a3 n3 cap3, .int .i64 i] w fun e w' => e = .returned (.bool true) ∧ Below w.heap.size w w' := by
  have HV : Hid (SV w a n (iv ks)) := V
  have HV2 : Hid (SV w a2 n2 (sv ts)) := V2
  have HV3 : Hid (SV w a3 n3 (iv cs)) := V3
  have HL : Hid (ks.length = n) := hn
  have HN : Hid (a = none → n = 0 ∧ cap = 0) := na
  have HN2 : Hid (a2 = none → n2 = 0 ∧ cap2 = 0) := na2
  have HN3 : Hid (a3 = none → n3 = 0 ∧ cap3 = 0) := na3
  have HTS : Hid (∀ i, (ts.getD i ByteArray.empty).size ≤ maxLen) := hts
  have HM : Hid (n ≤ maxLen ∧ n2 ≤ maxLen ∧ n3 ≤ maxLen) := ⟨hm, hm2, hm3⟩
  clear V V2 V3 hn na na2 na3 hts hm hm2 hm3
  go_enter Try.func3, Try.ntmps3
  go_wp2_with fail
  refine (bytes6 _ _ _ _ _ _ _ _ _ ts _ _ HM.out.1 HM.out.2.1 HM.out.2.2 HTS.out HV2.out).mono ?_
  rintro e w' ⟨rfl, (rfl | ⟨rfl, hsmall⟩)⟩
  · go_wp2
    go_ret
    exact ⟨rfl, Below.refl _ _⟩
  · obtain ⟨s1, s2, s3, s4⟩ := hsmall
    have HS4 : Hid (∀ i, i < n2 → (ts.getD i ByteArray.empty).size ≤ 1048576) := s4
    clear s4
    go_wp2_with fail
    refine (bytes7 _ _ _ _ _ _ _ _ _ ts _ s1 s2 s3 HS4.out HV2.out).mono ?_
    rintro e w' ⟨rfl, r, rfl, (hr | hr)⟩
    · go_wp2
      go_ret
      exact ⟨rfl, Below.refl _ _⟩
    · by_cases hlen : n = n2
      · subst hlen
        have hlb : ((n : Int) != (n : Int)) = false := by simp
        go_wp2_with fail
        refine (fits_any ks ts cs _ _ _ _ _ _ _ _ _ s1 s3 HV.out HV2.out HV3.out).mono ?_
        rintro e w1 ⟨rfl, hb1⟩
        cases hfit : fitF ks ts cs n3 n 0 []
        · go_wp2
          go_ret
          exact ⟨rfl, hb1⟩
        · have HF : Hid (fitF ks ts cs n3 n 0 [] = true) := hfit
          clear hfit
          go_wp2_with fail
          refine (copyInts_any _ _ _ ks _ s1 HN.out ((HV.out).on hb1)).mono ?_
          rintro e w2 ⟨a', rfl, hb2, V⟩
          have k2 : Below w'.heap.size w' w2 := hb1.trans (hb2.mono hb1.size)
          go_wp2_with fail
          refine (copyStrs_any _ _ _ ts _ s1 HN2.out ((HV2.out).on k2)).mono ?_
          rintro e w3 ⟨a2', rfl, hb3, V2⟩
          have k3 : Below w'.heap.size w' w3 := k2.trans (hb3.mono k2.size)
          go_wp2_with fail
          refine (copyInts_any _ _ _ cs _ s3 HN3.out ((HV3.out).on k3)).mono ?_
          rintro e w4 ⟨a3', rfl, hb4, V3⟩
          have k4 : Below w'.heap.size w' w4 := k3.trans (hb4.mono k3.size)
          have V' := (V.on hb3).on hb4
          have V2' := V2.on hb4
          clear V V2
          go_wp2_with fail
          refine (zzargs_any ks ts cs _ _ _ _ _ _ _ _ _ hi0 hi1 HL.out s1 s3 V' V2' V3 HF.out).mono ?_
          rintro e w5 ⟨rfl, hb5⟩
          have k5 : Below w'.heap.size w' w5 := k4.trans (hb5.mono k4.size)
          go_wp2_with fail
          refine (model_any ks ts _ _ _ _ _ _ _ HL.out s1 (V'.on hb5) (V2'.on hb5)).mono ?_
          rintro e w6 ⟨rfl, rfl⟩
          go_wp2
          go_ret
          exact ⟨rfl, k5⟩
      · have hlb : ((n : Int) != (n2 : Int)) = true := by simp; omega
        clear hlen
        go_wp2
        go_ret
        exact ⟨rfl, Below.refl _ _⟩

end Go.Proofs.Qxb6605218a
