/-
  zzSearchCycleModelB1 (15) computes autF.
-/
import Derived.Test.Qxb6605218aAut
namespace Go.Proofs.Qxb6605218a
open Go.RowKit
set_option linter.unusedVariables false

set_option maxHeartbeats 2000000 in
theorem sc_model_out (ks : List Int) (ts : List ByteArray) (a a2 : Option Addr) (n cap cap2 : Nat) (i : Int) (w : World) (hm : n ≤ 1048576) (h : i < 0 ∨ (n : Int) ≤ i) :
    Calls Try.prog 15 #[.slice a n cap, .slice a2 n cap2, .int .i64 i] w fun e w' => e = .returned (.tuple #[.int .i64 i, .bool true]) ∧ w' = w := by
  by_cases h1 : i < 0
  · go_enter Try.func15, Try.ntmps15
    go_wp2
    go_ret2
    exact ⟨rfl, rfl⟩
  · have h2 : (n : Int) ≤ i := by omega
    clear h
    go_enter Try.func15, Try.ntmps15
    go_wp2
    go_ret2
    exact ⟨rfl, rfl⟩

set_option maxRecDepth 100000 in
set_option maxHeartbeats 4000000 in
theorem sc_model_in (ks : List Int) (ts : List ByteArray) (a a2 : Option Addr) (n cap cap2 : Nat) (i0 : Nat) (w : World) (hn : ks.length = n) (hm : n ≤ 1048576) (hsz : ∀ i, i < n → (ts.getD i ByteArray.empty).size ≤ 1048576) (V : SV w a n (iv ks)) (V2 : SV w a2 n (sv ts)) (ho : i0 < n) :
    Calls Try.prog 15 #[.slice a n cap, .slice a2 n cap2, .int .i64 (i0 : Int)] w fun e w' => e = .returned (.tuple #[.int .i64 (autF ks ts n i0 (n + 1 - i0) i0 0 false).1, .bool (autF ks ts n i0 (n + 1 - i0) i0 0 false).2]) ∧ w' = w := by
  have HV : Hid (SV w a n (iv ks)) := V
  have HV2 : Hid (SV w a2 n (sv ts)) := V2
  have HL : Hid (ks.length = n) := hn
  have HSZ : Hid (∀ i, i < n → (ts.getD i ByteArray.empty).size ≤ 1048576) := hsz
  clear V V2 hn hsz
  obtain ⟨R, hR⟩ : ∃ R, R = autF ks ts n i0 (n + 1 - i0) i0 0 false := ⟨_, rfl⟩
  have HR0 : Hid (R = autF ks ts n i0 (n + 1 - i0) i0 0 false) := hR
  rw [← hR]
  clear hR
  have t1 : decide ((i0 : Int) < 0) = false := by simp
  have t2 : decide (n ≤ i0) = false := by simp; omega
  go_enter Try.func15, Try.ntmps15
  go_wp2
  go_loop [9, 10, 11] (fun ss cc pp => ∃ (p : Nat) (st : Int) (c : Bool), i0 ≤ p ∧ p ≤ n + 1 ∧ pp = .int .i64 p ∧ ss = .int .i64 st ∧ cc = .bool c ∧ (0 ≤ st ∧ st ≤ 10) ∧ Hid (R = autF ks ts n i0 (n + 1 - p) p st c)) (fun _ _ pp => n + 1 - (intOf pp).toNat)
  case atStart => exact ⟨i0, 0, false, by omega, by omega, rfl, rfl, rfl, by omega, HR0⟩
  case round =>
    clear HR0
    obtain ⟨p, st, c, hip, hpn1, rfl, rfl, rfl, hst, HR⟩ := hrel
    by_cases hle : p ≤ n
    · rw [show n + 1 - p = (n + 1 - (p + 1)) + 1 by omega] at HR
      have hst' : st = 0 ∨ st = 1 ∨ st = 2 ∨ st = 3 ∨ st = 4 ∨ st = 5 ∨ st = 6 ∨ st = 7 ∨ st = 8 ∨ st = 9 ∨ st = 10 := by omega
      clear hst
      rcases hst' with rfl | rfl | rfl | rfl | rfl | rfl | rfl | rfl | rfl | rfl | rfl
      · cases hSEARCH : kwB ks ts (p : Int) ⟨#[83, 69, 65, 82, 67, 72]⟩
        · cases hCYCLE : kwB ks ts (p : Int) ⟨#[67, 89, 67, 76, 69]⟩
          · have HSEARCH : Hid (kwB ks ts (p : Int) ⟨#[83, 69, 65, 82, 67, 72]⟩ = false) := hSEARCH
            have HCYCLE : Hid (kwB ks ts (p : Int) ⟨#[67, 89, 67, 76, 69]⟩ = false) := hCYCLE
            have HE := HR.out
            rw [a0n hSEARCH hCYCLE] at HE
            subst HE
            clear HR hSEARCH hCYCLE
            go_wp2_with (go_at_call 23; refine (kwAt_any ks ts _ _ _ _ _ _ _ _ HL.out hm HSZ.out (by decide) HV.out HV2.out).mono ?_; rintro e w ⟨rfl, rfl⟩; first | rw [HSEARCH.out] | rw [HCYCLE.out])
            go_ret2
            exact ⟨rfl, rfl⟩
          · have HSEARCH : Hid (kwB ks ts (p : Int) ⟨#[83, 69, 65, 82, 67, 72]⟩ = false) := hSEARCH
            have HCYCLE : Hid (kwB ks ts (p : Int) ⟨#[67, 89, 67, 76, 69]⟩ = true) := hCYCLE
            have HN : Hid (R = autF ks ts n i0 (n + 1 - (p + 1)) (p + 1) 4 true) := by show R = _; rw [HR.out, a0c hSEARCH hCYCLE]
            clear HR hSEARCH hCYCLE
            go_wp2_with (go_at_call 23; refine (kwAt_any ks ts _ _ _ _ _ _ _ _ HL.out hm HSZ.out (by decide) HV.out HV2.out).mono ?_; rintro e w ⟨rfl, rfl⟩; first | rw [HSEARCH.out] | rw [HCYCLE.out])
            go_round
            case rel => exact ⟨p + 1, 4, true, by omega, by omega, by go_num, rfl, rfl, by omega, HN⟩
            case measure => simp [intOf]; omega
        · have HSEARCH : Hid (kwB ks ts (p : Int) ⟨#[83, 69, 65, 82, 67, 72]⟩ = true) := hSEARCH
          have HN : Hid (R = autF ks ts n i0 (n + 1 - (p + 1)) (p + 1) 1 c) := by show R = _; rw [HR.out, a0s hSEARCH]
          clear HR hSEARCH
          go_wp2_with (go_at_call 23; refine (kwAt_any ks ts _ _ _ _ _ _ _ _ HL.out hm HSZ.out (by decide) HV.out HV2.out).mono ?_; rintro e w ⟨rfl, rfl⟩; first | rw [HSEARCH.out])
          go_round
          case rel => exact ⟨p + 1, 1, c, by omega, by omega, by go_num, rfl, rfl, by omega, HN⟩
          case measure => simp [intOf]; omega
      · cases hBREADTH : kwB ks ts (p : Int) ⟨#[66, 82, 69, 65, 68, 84, 72]⟩
        · cases hDEPTH : kwB ks ts (p : Int) ⟨#[68, 69, 80, 84, 72]⟩
          · have HBREADTH : Hid (kwB ks ts (p : Int) ⟨#[66, 82, 69, 65, 68, 84, 72]⟩ = false) := hBREADTH
            have HDEPTH : Hid (kwB ks ts (p : Int) ⟨#[68, 69, 80, 84, 72]⟩ = false) := hDEPTH
            have HE := HR.out
            rw [a1n hBREADTH hDEPTH] at HE
            subst HE
            clear HR hBREADTH hDEPTH
            go_wp2_with (go_at_call 23; refine (kwAt_any ks ts _ _ _ _ _ _ _ _ HL.out hm HSZ.out (by decide) HV.out HV2.out).mono ?_; rintro e w ⟨rfl, rfl⟩; first | rw [HBREADTH.out] | rw [HDEPTH.out])
            go_ret2
            exact ⟨rfl, rfl⟩
          · have HBREADTH : Hid (kwB ks ts (p : Int) ⟨#[66, 82, 69, 65, 68, 84, 72]⟩ = false) := hBREADTH
            have HDEPTH : Hid (kwB ks ts (p : Int) ⟨#[68, 69, 80, 84, 72]⟩ = true) := hDEPTH
            have HN : Hid (R = autF ks ts n i0 (n + 1 - (p + 1)) (p + 1) 2 c) := by show R = _; rw [HR.out, a1d hBREADTH hDEPTH]
            clear HR hBREADTH hDEPTH
            go_wp2_with (go_at_call 23; refine (kwAt_any ks ts _ _ _ _ _ _ _ _ HL.out hm HSZ.out (by decide) HV.out HV2.out).mono ?_; rintro e w ⟨rfl, rfl⟩; first | rw [HBREADTH.out] | rw [HDEPTH.out])
            go_round
            case rel => exact ⟨p + 1, 2, c, by omega, by omega, by go_num, rfl, rfl, by omega, HN⟩
            case measure => simp [intOf]; omega
        · have HBREADTH : Hid (kwB ks ts (p : Int) ⟨#[66, 82, 69, 65, 68, 84, 72]⟩ = true) := hBREADTH
          have HN : Hid (R = autF ks ts n i0 (n + 1 - (p + 1)) (p + 1) 2 c) := by show R = _; rw [HR.out, a1b hBREADTH]
          clear HR hBREADTH
          go_wp2_with (go_at_call 23; refine (kwAt_any ks ts _ _ _ _ _ _ _ _ HL.out hm HSZ.out (by decide) HV.out HV2.out).mono ?_; rintro e w ⟨rfl, rfl⟩; first | rw [HBREADTH.out])
          go_round
          case rel => exact ⟨p + 1, 2, c, by omega, by omega, by go_num, rfl, rfl, by omega, HN⟩
          case measure => simp [intOf]; omega
      · cases hFIRST : kwB ks ts (p : Int) ⟨#[70, 73, 82, 83, 84]⟩
        · have HFIRST : Hid (kwB ks ts (p : Int) ⟨#[70, 73, 82, 83, 84]⟩ = false) := hFIRST
          have HE := HR.out
          rw [a2n hFIRST] at HE
          subst HE
          clear HR hFIRST
          go_wp2_with (go_at_call 23; refine (kwAt_any ks ts _ _ _ _ _ _ _ _ HL.out hm HSZ.out (by decide) HV.out HV2.out).mono ?_; rintro e w ⟨rfl, rfl⟩; first | rw [HFIRST.out])
          go_ret2
          exact ⟨rfl, rfl⟩
        · have HFIRST : Hid (kwB ks ts (p : Int) ⟨#[70, 73, 82, 83, 84]⟩ = true) := hFIRST
          have HN : Hid (R = autF ks ts n i0 (n + 1 - (p + 1)) (p + 1) 3 c) := by show R = _; rw [HR.out, a2y hFIRST]
          clear HR hFIRST
          go_wp2_with (go_at_call 23; refine (kwAt_any ks ts _ _ _ _ _ _ _ _ HL.out hm HSZ.out (by decide) HV.out HV2.out).mono ?_; rintro e w ⟨rfl, rfl⟩; first | rw [HFIRST.out])
          go_round
          case rel => exact ⟨p + 1, 3, c, by omega, by omega, by go_num, rfl, rfl, by omega, HN⟩
          case measure => simp [intOf]; omega
      · cases hBY : kwB ks ts (p : Int) ⟨#[66, 89]⟩
        · have HBY : Hid (kwB ks ts (p : Int) ⟨#[66, 89]⟩ = false) := hBY
          have HE := HR.out
          rw [a3n hBY] at HE
          subst HE
          clear HR hBY
          go_wp2_with (go_at_call 23; refine (kwAt_any ks ts _ _ _ _ _ _ _ _ HL.out hm HSZ.out (by decide) HV.out HV2.out).mono ?_; rintro e w ⟨rfl, rfl⟩; first | rw [HBY.out])
          go_ret2
          exact ⟨rfl, rfl⟩
        · have HBY : Hid (kwB ks ts (p : Int) ⟨#[66, 89]⟩ = true) := hBY
          have HN : Hid (R = autF ks ts n i0 (n + 1 - (p + 1)) (p + 1) 4 c) := by show R = _; rw [HR.out, a3y hBY]
          clear HR hBY
          go_wp2_with (go_at_call 23; refine (kwAt_any ks ts _ _ _ _ _ _ _ _ HL.out hm HSZ.out (by decide) HV.out HV2.out).mono ?_; rintro e w ⟨rfl, rfl⟩; first | rw [HBY.out])
          go_round
          case rel => exact ⟨p + 1, 4, c, by omega, by omega, by go_num, rfl, rfl, by omega, HN⟩
          case measure => simp [intOf]; omega
      · cases hNM : nameB ks (p : Int)
        · have HNM : Hid (nameB ks (p : Int) = false) := hNM
          have HE := HR.out
          rw [a4n hNM] at HE
          subst HE
          clear HR hNM
          go_wp2_with (go_at_call 24; refine (nameAt_any ks _ _ _ _ _ HL.out hm HV.out).mono ?_; rintro e w ⟨rfl, rfl⟩; first | rw [HNM.out])
          go_ret2
          exact ⟨rfl, rfl⟩
        · have HNM : Hid (nameB ks (p : Int) = true) := hNM
          have HN : Hid (R = autF ks ts n i0 (n + 1 - (p + 1)) (p + 1) 5 c) := by show R = _; rw [HR.out, a4y hNM]
          clear HR hNM
          go_wp2_with (go_at_call 24; refine (nameAt_any ks _ _ _ _ _ HL.out hm HV.out).mono ?_; rintro e w ⟨rfl, rfl⟩; first | rw [HNM.out])
          go_round
          case rel => exact ⟨p + 1, 5, c, by omega, by omega, by go_num, rfl, rfl, by omega, HN⟩
          case measure => simp [intOf]; omega
      · cases hCM : markB ks ts (p : Int) ⟨#[44]⟩
        · cases hSET : kwB ks ts (p : Int) ⟨#[83, 69, 84]⟩
          · have HCM : Hid (markB ks ts (p : Int) ⟨#[44]⟩ = false) := hCM
            have HSET : Hid (kwB ks ts (p : Int) ⟨#[83, 69, 84]⟩ = false) := hSET
            have HE := HR.out
            rw [a5n hCM hSET] at HE
            subst HE
            clear HR hCM hSET
            go_wp2_with (first | (go_at_call 23; refine (kwAt_any ks ts _ _ _ _ _ _ _ _ HL.out hm HSZ.out (by decide) HV.out HV2.out).mono ?_; rintro e w ⟨rfl, rfl⟩; first | rw [HSET.out]) | (go_at_call 21; refine (mark_any ks ts _ _ _ _ _ _ _ _ HL.out hm HV.out HV2.out).mono ?_; rintro e w ⟨rfl, rfl⟩; first | rw [HCM.out]))
            go_ret2
            exact ⟨rfl, rfl⟩
          · have HCM : Hid (markB ks ts (p : Int) ⟨#[44]⟩ = false) := hCM
            have HSET : Hid (kwB ks ts (p : Int) ⟨#[83, 69, 84]⟩ = true) := hSET
            have HN : Hid (R = autF ks ts n i0 (n + 1 - (p + 1)) (p + 1) 6 c) := by show R = _; rw [HR.out, a5s hCM hSET]
            clear HR hCM hSET
            go_wp2_with (first | (go_at_call 23; refine (kwAt_any ks ts _ _ _ _ _ _ _ _ HL.out hm HSZ.out (by decide) HV.out HV2.out).mono ?_; rintro e w ⟨rfl, rfl⟩; first | rw [HSET.out]) | (go_at_call 21; refine (mark_any ks ts _ _ _ _ _ _ _ _ HL.out hm HV.out HV2.out).mono ?_; rintro e w ⟨rfl, rfl⟩; first | rw [HCM.out]))
            go_round
            case rel => exact ⟨p + 1, 6, c, by omega, by omega, by go_num, rfl, rfl, by omega, HN⟩
            case measure => simp [intOf]; omega
        · have HCM : Hid (markB ks ts (p : Int) ⟨#[44]⟩ = true) := hCM
          have HN : Hid (R = autF ks ts n i0 (n + 1 - (p + 1)) (p + 1) 4 c) := by show R = _; rw [HR.out, a5c hCM]
          clear HR hCM
          go_wp2_with (go_at_call 21; refine (mark_any ks ts _ _ _ _ _ _ _ _ HL.out hm HV.out HV2.out).mono ?_; rintro e w ⟨rfl, rfl⟩; first | rw [HCM.out])
          go_round
          case rel => exact ⟨p + 1, 4, c, by omega, by omega, by go_num, rfl, rfl, by omega, HN⟩
          case measure => simp [intOf]; omega
      · cases hNM : nameB ks (p : Int)
        · have HNM : Hid (nameB ks (p : Int) = false) := hNM
          have HE := HR.out
          rw [a6n hNM] at HE
          subst HE
          clear HR hNM
          go_wp2_with (go_at_call 24; refine (nameAt_any ks _ _ _ _ _ HL.out hm HV.out).mono ?_; rintro e w ⟨rfl, rfl⟩; first | rw [HNM.out])
          go_ret2
          exact ⟨rfl, rfl⟩
        · cases c
          · have HNM : Hid (nameB ks (p : Int) = true) := hNM
            have HN : Hid (R = autF ks ts n i0 (n + 1 - (p + 1)) (p + 1) 7 false) := by show R = _; rw [HR.out, a6f hNM]
            clear HR hNM
            go_wp2_with (go_at_call 24; refine (nameAt_any ks _ _ _ _ _ HL.out hm HV.out).mono ?_; rintro e w ⟨rfl, rfl⟩; first | rw [HNM.out])
            go_round
            case rel => exact ⟨p + 1, 7, false, by omega, by omega, by go_num, rfl, rfl, by omega, HN⟩
            case measure => simp [intOf]; omega
          · have HNM : Hid (nameB ks (p : Int) = true) := hNM
            have HN : Hid (R = autF ks ts n i0 (n + 1 - (p + 1)) (p + 1) 8 true) := by show R = _; rw [HR.out, a6t hNM]
            clear HR hNM
            go_wp2_with (go_at_call 24; refine (nameAt_any ks _ _ _ _ _ HL.out hm HV.out).mono ?_; rintro e w ⟨rfl, rfl⟩; first | rw [HNM.out])
            go_round
            case rel => exact ⟨p + 1, 8, true, by omega, by omega, by go_num, rfl, rfl, by omega, HN⟩
            case measure => simp [intOf]; omega
      · cases hCYCLE : kwB ks ts (p : Int) ⟨#[67, 89, 67, 76, 69]⟩
        · have HCYCLE : Hid (kwB ks ts (p : Int) ⟨#[67, 89, 67, 76, 69]⟩ = false) := hCYCLE
          have HE := HR.out
          rw [a7n hCYCLE] at HE
          subst HE
          clear HR hCYCLE
          go_wp2_with (go_at_call 23; refine (kwAt_any ks ts _ _ _ _ _ _ _ _ HL.out hm HSZ.out (by decide) HV.out HV2.out).mono ?_; rintro e w ⟨rfl, rfl⟩; first | rw [HCYCLE.out])
          go_ret2
          exact ⟨rfl, rfl⟩
        · have HCYCLE : Hid (kwB ks ts (p : Int) ⟨#[67, 89, 67, 76, 69]⟩ = true) := hCYCLE
          have HN : Hid (R = autF ks ts n i0 (n + 1 - (p + 1)) (p + 1) 4 true) := by show R = _; rw [HR.out, a7y hCYCLE]
          clear HR hCYCLE
          go_wp2_with (go_at_call 23; refine (kwAt_any ks ts _ _ _ _ _ _ _ _ HL.out hm HSZ.out (by decide) HV.out HV2.out).mono ?_; rintro e w ⟨rfl, rfl⟩; first | rw [HCYCLE.out])
          go_round
          case rel => exact ⟨p + 1, 4, true, by omega, by omega, by go_num, rfl, rfl, by omega, HN⟩
          case measure => simp [intOf]; omega
      · cases hTO : kwB ks ts (p : Int) ⟨#[84, 79]⟩
        · cases hUSING : kwB ks ts (p : Int) ⟨#[85, 83, 73, 78, 71]⟩
          · have HTO : Hid (kwB ks ts (p : Int) ⟨#[84, 79]⟩ = false) := hTO
            have HUSING : Hid (kwB ks ts (p : Int) ⟨#[85, 83, 73, 78, 71]⟩ = false) := hUSING
            have HE := HR.out
            rw [a8n hTO hUSING] at HE
            subst HE
            clear HR hTO hUSING
            go_wp2_with (go_at_call 23; refine (kwAt_any ks ts _ _ _ _ _ _ _ _ HL.out hm HSZ.out (by decide) HV.out HV2.out).mono ?_; rintro e w ⟨rfl, rfl⟩; first | rw [HTO.out] | rw [HUSING.out])
            go_ret2
            exact ⟨rfl, rfl⟩
          · have HTO : Hid (kwB ks ts (p : Int) ⟨#[84, 79]⟩ = false) := hTO
            have HUSING : Hid (kwB ks ts (p : Int) ⟨#[85, 83, 73, 78, 71]⟩ = true) := hUSING
            have HN : Hid (R = autF ks ts n i0 (n + 1 - (p + 1)) (p + 1) 10 c) := by show R = _; rw [HR.out, a8u hTO hUSING]
            clear HR hTO hUSING
            go_wp2_with (go_at_call 23; refine (kwAt_any ks ts _ _ _ _ _ _ _ _ HL.out hm HSZ.out (by decide) HV.out HV2.out).mono ?_; rintro e w ⟨rfl, rfl⟩; first | rw [HTO.out] | rw [HUSING.out])
            go_round
            case rel => exact ⟨p + 1, 10, c, by omega, by omega, by go_num, rfl, rfl, by omega, HN⟩
            case measure => simp [intOf]; omega
        · have HTO : Hid (kwB ks ts (p : Int) ⟨#[84, 79]⟩ = true) := hTO
          have HN : Hid (R = autF ks ts n i0 (n + 1 - (p + 1)) (p + 1) 9 c) := by show R = _; rw [HR.out, a8t hTO]
          clear HR hTO
          go_wp2_with (go_at_call 23; refine (kwAt_any ks ts _ _ _ _ _ _ _ _ HL.out hm HSZ.out (by decide) HV.out HV2.out).mono ?_; rintro e w ⟨rfl, rfl⟩; first | rw [HTO.out])
          go_round
          case rel => exact ⟨p + 1, 9, c, by omega, by omega, by go_num, rfl, rfl, by omega, HN⟩
          case measure => simp [intOf]; omega
      · cases hUSING : kwB ks ts (p : Int) ⟨#[85, 83, 73, 78, 71]⟩
        · by_cases hpn : n ≤ p
          · have HUSING : Hid (kwB ks ts (p : Int) ⟨#[85, 83, 73, 78, 71]⟩ = false) := hUSING
            have HE := HR.out
            rw [a9e hUSING hpn] at HE
            subst HE
            clear HR hUSING
            go_wp2_with (go_at_call 23; refine (kwAt_any ks ts _ _ _ _ _ _ _ _ HL.out hm HSZ.out (by decide) HV.out HV2.out).mono ?_; rintro e w ⟨rfl, rfl⟩; first | rw [HUSING.out])
            go_ret2
            exact ⟨rfl, rfl⟩
          · cases hOP : markB ks ts (p : Int) ⟨#[40]⟩
            · have HUSING : Hid (kwB ks ts (p : Int) ⟨#[85, 83, 73, 78, 71]⟩ = false) := hUSING
              have HOP : Hid (markB ks ts (p : Int) ⟨#[40]⟩ = false) := hOP
              have HN : Hid (R = autF ks ts n i0 (n + 1 - (p + 1)) (p + 1) 9 c) := by show R = _; rw [HR.out, a9g hUSING hpn hOP]
              clear HR hUSING hOP
              go_wp2_with (first | (go_at_call 23; refine (kwAt_any ks ts _ _ _ _ _ _ _ _ HL.out hm HSZ.out (by decide) HV.out HV2.out).mono ?_; rintro e w ⟨rfl, rfl⟩; first | rw [HUSING.out]) | (go_at_call 21; refine (mark_any ks ts _ _ _ _ _ _ _ _ HL.out hm HV.out HV2.out).mono ?_; rintro e w ⟨rfl, rfl⟩; first | rw [HOP.out]))
              go_round
              case rel => exact ⟨p + 1, 9, c, by omega, by omega, by go_num, rfl, rfl, by omega, HN⟩
              case measure => simp [intOf]; omega
            · have HUSING : Hid (kwB ks ts (p : Int) ⟨#[85, 83, 73, 78, 71]⟩ = false) := hUSING
              have HOP : Hid (markB ks ts (p : Int) ⟨#[40]⟩ = true) := hOP
              have HE := HR.out
              rw [a9o hUSING hOP] at HE
              subst HE
              clear HR hUSING hOP
              go_wp2_with (first | (go_at_call 23; refine (kwAt_any ks ts _ _ _ _ _ _ _ _ HL.out hm HSZ.out (by decide) HV.out HV2.out).mono ?_; rintro e w ⟨rfl, rfl⟩; first | rw [HUSING.out]) | (go_at_call 21; refine (mark_any ks ts _ _ _ _ _ _ _ _ HL.out hm HV.out HV2.out).mono ?_; rintro e w ⟨rfl, rfl⟩; first | rw [HOP.out]))
              go_ret2
              exact ⟨rfl, rfl⟩
        · have HUSING : Hid (kwB ks ts (p : Int) ⟨#[85, 83, 73, 78, 71]⟩ = true) := hUSING
          have HN : Hid (R = autF ks ts n i0 (n + 1 - (p + 1)) (p + 1) 10 c) := by show R = _; rw [HR.out, a9u hUSING]
          clear HR hUSING
          go_wp2_with (go_at_call 23; refine (kwAt_any ks ts _ _ _ _ _ _ _ _ HL.out hm HSZ.out (by decide) HV.out HV2.out).mono ?_; rintro e w ⟨rfl, rfl⟩; first | rw [HUSING.out])
          go_round
          case rel => exact ⟨p + 1, 10, c, by omega, by omega, by go_num, rfl, rfl, by omega, HN⟩
          case measure => simp [intOf]; omega
      · cases hNM : nameB ks (p : Int)
        · have HNM : Hid (nameB ks (p : Int) = false) := hNM
          have HE := HR.out
          rw [a10n hNM] at HE
          subst HE
          clear HR hNM
          go_wp2_with (go_at_call 24; refine (nameAt_any ks _ _ _ _ _ HL.out hm HV.out).mono ?_; rintro e w ⟨rfl, rfl⟩; first | rw [HNM.out])
          go_ret2
          exact ⟨rfl, rfl⟩
        · have HNM : Hid (nameB ks (p : Int) = true) := hNM
          have HE := HR.out
          rw [a10y hNM] at HE
          subst HE
          clear HR hNM
          go_wp2_with (go_at_call 24; refine (nameAt_any ks _ _ _ _ _ HL.out hm HV.out).mono ?_; rintro e w ⟨rfl, rfl⟩; first | rw [HNM.out])
          go_ret2
          exact ⟨rfl, rfl⟩
    · have e : n + 1 - p = 0 := by omega
      rw [e] at HR
      have HE := HR.out
      rw [a_end] at HE
      subst HE
      clear HR e
      go_wp2
      go_ret2
      exact ⟨rfl, rfl⟩

end Go.Proofs.Qxb6605218a
