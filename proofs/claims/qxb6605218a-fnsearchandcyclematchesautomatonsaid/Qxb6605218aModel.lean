/-
  zzArgumentsModelB1 (12): the depth-counting walk computes modF.
-/
import Derived.Test.Qxb6605218aArgsLaw
namespace Go.Proofs.Qxb6605218a
open Go.RowKit
set_option linter.unusedVariables false

theorem toList1 (b : UInt8) : ByteArray.toList ⟨#[b]⟩ = [b] := by
  simp [ByteArray.toList, ByteArray.toList.loop, ByteArray.size, ByteArray.get!]

/-- a mark within the list -/
theorem mark_in (ks : List Int) (ts : List ByteArray) (j : Nat) (b : UInt8) (h : j < ks.length) : markB ks ts (j : Int) ⟨#[b]⟩ = mkB ks ts j [b] := by
  have hj : decide ((0 : Int) ≤ (j : Int) ∧ (j : Int) < (ks.length : Int)) = true := by simp; omega
  unfold markB kindB mkB
  rw [hj, toList1, Bool.true_and, Int.toNat_natCast]
theorem mark_out (ks : List Int) (ts : List ByteArray) (p : Int) (m : ByteArray) (h : p < 0 ∨ (ks.length : Int) ≤ p) : markB ks ts p m = false := by
  have hj : decide (0 ≤ p ∧ p < (ks.length : Int)) = false := by simp; omega
  unfold markB kindB
  rw [hj]; rfl

set_option maxHeartbeats 2000000 in
theorem model_out (ks : List Int) (ts : List ByteArray) (a a2 : Option Addr) (n cap cap2 : Nat) (i : Int) (w : World) (hm : n ≤ 1048576) (h : i < -1 ∨ (n : Int) - 1 ≤ i) :
    Calls Try.prog 12 #[.slice a n cap, .slice a2 n cap2, .int .i64 i] w fun e w' => e = .returned (.int .i64 1) ∧ w' = w := by
  by_cases h1 : i < -1
  · go_enter Try.func12, Try.ntmps12
    go_wp2
    go_ret
    exact ⟨rfl, rfl⟩
  · have h2 : (n : Int) - 1 ≤ i := by omega
    clear h
    go_enter Try.func12, Try.ntmps12
    go_wp2
    go_ret
    exact ⟨rfl, rfl⟩

set_option maxHeartbeats 2000000 in
theorem model_in (ks : List Int) (ts : List ByteArray) (a a2 : Option Addr) (n cap cap2 : Nat) (i : Int) (o : Nat) (w : World) (hn : ks.length = n) (hm : n ≤ 1048576) (V : SV w a n (iv ks)) (V2 : SV w a2 n (sv ts)) (hi : i = (o : Int) - 1) (ho : o < n) :
    Calls Try.prog 12 #[.slice a n cap, .slice a2 n cap2, .int .i64 i] w fun e w' => e = .returned (.int .i64 (if mkB ks ts o [40] then modF ks ts (n - (o + 1)) (o + 1) 0 0 1 true else 1)) ∧ w' = w := by
  have HV : Hid (SV w a n (iv ks)) := V
  have HV2 : Hid (SV w a2 n (sv ts)) := V2
  have HL : Hid (ks.length = n) := hn
  clear V V2 hn
  have hi1 : -1 ≤ i := by omega
  have hi2 : i < (n : Int) - 1 := by omega
  have HI : Hid (i + 1 = (o : Int)) := by show i + 1 = (o : Int); omega
  clear hi
  have t1 : decide (i < -1) = false := by simp; omega
  have t2 : decide ((n : Int) - 1 ≤ i) = false := by simp; omega
  cases h40 : mkB ks ts o [40]
  · have HM : Hid (markB ks ts (i + 1) ⟨#[40]⟩ = false) := by
      show markB ks ts (i + 1) ⟨#[40]⟩ = false
      rw [HI.out, mark_in ks ts o 40 (by rw [HL.out]; exact ho)]; exact h40
    clear h40
    go_enter Try.func12, Try.ntmps12
    go_wp2_with (go_at_call 21; refine (mark_any ks ts _ _ _ _ _ _ _ _ HL.out hm HV.out HV2.out).mono ?_; rintro e w ⟨rfl, rfl⟩; rw [HM.out])
    go_ret
    exact ⟨rfl, rfl⟩
  · have HM : Hid (markB ks ts (i + 1) ⟨#[40]⟩ = true) := by
      show markB ks ts (i + 1) ⟨#[40]⟩ = true
      rw [HI.out, mark_in ks ts o 40 (by rw [HL.out]; exact ho)]; exact h40
    clear h40
    obtain ⟨R, hR⟩ : ∃ R, R = modF ks ts (n - (o + 1)) (o + 1) 0 0 1 true := ⟨_, rfl⟩
    have HR0 : Hid (R = modF ks ts (n - (o + 1)) (o + 1) 0 0 1 true) := hR
    rw [if_pos rfl, ← hR]
    clear hR
    have HS : Hid (i + 1 + 1 = ((o + 1 : Nat) : Int)) := by show i + 1 + 1 = ((o + 1 : Nat) : Int); have := HI.out; omega
    go_enter Try.func12, Try.ntmps12
    go_wp2_with (go_at_call 21; refine (mark_any ks ts _ _ _ _ _ _ _ _ HL.out hm HV.out HV2.out).mono ?_; rintro e w ⟨rfl, rfl⟩; rw [HM.out])
    go_loop [9, 10, 11, 12, 13] (fun dd bb cc ee jj => ∃ (j d : Nat) (br cnt : Int) (emp : Bool), o + 1 ≤ j ∧ j ≤ n ∧ jj = .int .i64 j ∧ dd = .int .i64 d ∧ bb = .int .i64 br ∧ cc = .int .i64 cnt ∧ ee = .bool emp ∧ d ≤ j ∧ -(j : Int) ≤ br ∧ br ≤ j ∧ 0 ≤ cnt ∧ cnt ≤ j ∧ Hid (R = modF ks ts (n - j) j d br cnt emp)) (fun _ _ _ _ jj => n - (intOf jj).toNat)
    case atStart => exact ⟨o + 1, 0, 0, 1, true, by omega, by omega, by rw [HS.out], rfl, rfl, rfl, rfl, by omega, by omega, by omega, by omega, by omega, HR0⟩
    case round =>
      clear HR0
      obtain ⟨j, d, br, cnt, emp, hoj, hjn, rfl, rfl, rfl, rfl, rfl, hdj, hb0, hb1, hc0, hc1, HR⟩ := hrel
      by_cases hlt : j < n
      · rw [show n - j = (n - (j + 1)) + 1 by omega] at HR
        have hltb : decide ((j : Int) < (n : Int)) = true := by simp; omega
        cases h41 : mkB ks ts j [41]
        · have M41 : Hid (markB ks ts (j : Int) ⟨#[41]⟩ = false) := by show markB ks ts (j : Int) ⟨#[41]⟩ = false; rw [mark_in ks ts j 41 (by rw [HL.out]; exact hlt)]; exact h41
          cases h40 : mkB ks ts j [40]
          · have M40 : Hid (markB ks ts (j : Int) ⟨#[40]⟩ = false) := by show markB ks ts (j : Int) ⟨#[40]⟩ = false; rw [mark_in ks ts j 40 (by rw [HL.out]; exact hlt)]; exact h40
            by_cases hd : d = 0
            · subst hd
              cases h91 : mkB ks ts j [91]
              · have M91 : Hid (markB ks ts (j : Int) ⟨#[91]⟩ = false) := by show markB ks ts (j : Int) ⟨#[91]⟩ = false; rw [mark_in ks ts j 91 (by rw [HL.out]; exact hlt)]; exact h91
                cases h93 : mkB ks ts j [93]
                · have M93 : Hid (markB ks ts (j : Int) ⟨#[93]⟩ = false) := by show markB ks ts (j : Int) ⟨#[93]⟩ = false; rw [mark_in ks ts j 93 (by rw [HL.out]; exact hlt)]; exact h93
                  cases h44 : mkB ks ts j [44]
                  · have M44 : Hid (markB ks ts (j : Int) ⟨#[44]⟩ = false) := by show markB ks ts (j : Int) ⟨#[44]⟩ = false; rw [mark_in ks ts j 44 (by rw [HL.out]; exact hlt)]; exact h44
                    have HN : Hid (R = modF ks ts (n - (j + 1)) (j + 1) 0 (br) (cnt) false) := by show R = _; rw [HR.out, modF_plain h40 h41 h91 h93 (by rw [h44]; rfl)]
                    clear HR
                    clear h41 h40 h91 h93 h44 hltb
                    go_wp2_with (go_at_call 21; refine (mark_any ks ts _ _ _ _ _ _ _ _ HL.out hm HV.out HV2.out).mono ?_; rintro e w ⟨rfl, rfl⟩; first | rw [M41.out] | rw [M40.out] | rw [M91.out] | rw [M93.out] | rw [M44.out])
                    go_round
                    case rel => exact ⟨j + 1, 0, br, cnt, false, by omega, by omega, by go_num, rfl, rfl, rfl, rfl, by omega, by omega, by omega, by omega, by omega, HN⟩
                    case measure => simp [intOf]; omega
                  · have M44 : Hid (markB ks ts (j : Int) ⟨#[44]⟩ = true) := by show markB ks ts (j : Int) ⟨#[44]⟩ = true; rw [mark_in ks ts j 44 (by rw [HL.out]; exact hlt)]; exact h44
                    by_cases hbr : br = 0
                    · have hbrb : (br == 0) = true := by simpa using hbr
                      have HN : Hid (R = modF ks ts (n - (j + 1)) (j + 1) 0 (br) (cnt + 1) false) := by show R = _; rw [HR.out, modF_comma h40 h41 h91 h93 (by rw [h44, hbrb]; rfl)]
                      clear HR
                      clear h41 h40 h91 h93 h44 hltb hbr
                      go_wp2_with (go_at_call 21; refine (mark_any ks ts _ _ _ _ _ _ _ _ HL.out hm HV.out HV2.out).mono ?_; rintro e w ⟨rfl, rfl⟩; first | rw [M41.out] | rw [M40.out] | rw [M91.out] | rw [M93.out] | rw [M44.out])
                      go_round
                      case rel => exact ⟨j + 1, 0, br, cnt + 1, false, by omega, by omega, by go_num, rfl, rfl, rfl, rfl, by omega, by omega, by omega, by omega, by omega, HN⟩
                      case measure => simp [intOf]; omega
                    · have hbrb : (br == 0) = false := by simpa using hbr
                      have HN : Hid (R = modF ks ts (n - (j + 1)) (j + 1) 0 (br) (cnt) false) := by show R = _; rw [HR.out, modF_plain h40 h41 h91 h93 (by rw [h44, hbrb]; rfl)]
                      clear HR
                      clear h41 h40 h91 h93 h44 hltb hbr
                      go_wp2_with (go_at_call 21; refine (mark_any ks ts _ _ _ _ _ _ _ _ HL.out hm HV.out HV2.out).mono ?_; rintro e w ⟨rfl, rfl⟩; first | rw [M41.out] | rw [M40.out] | rw [M91.out] | rw [M93.out] | rw [M44.out])
                      go_round
                      case rel => exact ⟨j + 1, 0, br, cnt, false, by omega, by omega, by go_num, rfl, rfl, rfl, rfl, by omega, by omega, by omega, by omega, by omega, HN⟩
                      case measure => simp [intOf]; omega
                · have M93 : Hid (markB ks ts (j : Int) ⟨#[93]⟩ = true) := by show markB ks ts (j : Int) ⟨#[93]⟩ = true; rw [mark_in ks ts j 93 (by rw [HL.out]; exact hlt)]; exact h93
                  have HN : Hid (R = modF ks ts (n - (j + 1)) (j + 1) 0 (br - 1) (cnt) false) := by show R = _; rw [HR.out, modF_rb h40 h41 h91 h93]
                  clear HR
                  clear h41 h40 h91 h93 hltb
                  go_wp2_with (go_at_call 21; refine (mark_any ks ts _ _ _ _ _ _ _ _ HL.out hm HV.out HV2.out).mono ?_; rintro e w ⟨rfl, rfl⟩; first | rw [M41.out] | rw [M40.out] | rw [M91.out] | rw [M93.out])
                  go_round
                  case rel => exact ⟨j + 1, 0, br - 1, cnt, false, by omega, by omega, by go_num, rfl, rfl, rfl, rfl, by omega, by omega, by omega, by omega, by omega, HN⟩
                  case measure => simp [intOf]; omega
              · have M91 : Hid (markB ks ts (j : Int) ⟨#[91]⟩ = true) := by show markB ks ts (j : Int) ⟨#[91]⟩ = true; rw [mark_in ks ts j 91 (by rw [HL.out]; exact hlt)]; exact h91
                have HN : Hid (R = modF ks ts (n - (j + 1)) (j + 1) 0 (br + 1) (cnt) false) := by show R = _; rw [HR.out, modF_lb h40 h41 h91]
                clear HR
                clear h41 h40 h91 hltb
                go_wp2_with (go_at_call 21; refine (mark_any ks ts _ _ _ _ _ _ _ _ HL.out hm HV.out HV2.out).mono ?_; rintro e w ⟨rfl, rfl⟩; first | rw [M41.out] | rw [M40.out] | rw [M91.out])
                go_round
                case rel => exact ⟨j + 1, 0, br + 1, cnt, false, by omega, by omega, by go_num, rfl, rfl, rfl, rfl, by omega, by omega, by omega, by omega, by omega, HN⟩
                case measure => simp [intOf]; omega
            · obtain ⟨d, rfl⟩ : ∃ d', d = d' + 1 := ⟨d - 1, by omega⟩
              have HN : Hid (R = modF ks ts (n - (j + 1)) (j + 1) (d + 1) (br) (cnt) false) := by show R = _; rw [HR.out, modF_deep h40 h41]
              clear HR
              clear h41 h40 hltb hd
              go_wp2_with (go_at_call 21; refine (mark_any ks ts _ _ _ _ _ _ _ _ HL.out hm HV.out HV2.out).mono ?_; rintro e w ⟨rfl, rfl⟩; first | rw [M41.out] | rw [M40.out])
              go_round
              case rel => exact ⟨j + 1, d + 1, br, cnt, false, by omega, by omega, by go_num, rfl, rfl, rfl, rfl, by omega, by omega, by omega, by omega, by omega, HN⟩
              case measure => simp [intOf]; omega
          · have M40 : Hid (markB ks ts (j : Int) ⟨#[40]⟩ = true) := by show markB ks ts (j : Int) ⟨#[40]⟩ = true; rw [mark_in ks ts j 40 (by rw [HL.out]; exact hlt)]; exact h40
            have HN : Hid (R = modF ks ts (n - (j + 1)) (j + 1) (d + 1) (br) (cnt) false) := by show R = _; rw [HR.out, modF_open h40]
            clear HR
            clear h41 h40 hltb
            go_wp2_with (go_at_call 21; refine (mark_any ks ts _ _ _ _ _ _ _ _ HL.out hm HV.out HV2.out).mono ?_; rintro e w ⟨rfl, rfl⟩; first | rw [M41.out] | rw [M40.out])
            go_round
            case rel => exact ⟨j + 1, d + 1, br, cnt, false, by omega, by omega, by go_num, by go_num, rfl, rfl, rfl, by omega, by omega, by omega, by omega, by omega, HN⟩
            case measure => simp [intOf]; omega
        · have M41 : Hid (markB ks ts (j : Int) ⟨#[41]⟩ = true) := by show markB ks ts (j : Int) ⟨#[41]⟩ = true; rw [mark_in ks ts j 41 (by rw [HL.out]; exact hlt)]; exact h41
          by_cases hd : d = 0
          · subst hd
            have HE : Hid (R = if emp then 0 else cnt) := by show R = _; rw [HR.out, modF_zero h41]
            clear HR h41 hltb
            cases emp
            · go_wp2_with (go_at_call 21; refine (mark_any ks ts _ _ _ _ _ _ _ _ HL.out hm HV.out HV2.out).mono ?_; rintro e w ⟨rfl, rfl⟩; first | rw [M41.out])
              go_ret
              exact ⟨by rw [HE.out]; rfl, rfl⟩
            · go_wp2_with (go_at_call 21; refine (mark_any ks ts _ _ _ _ _ _ _ _ HL.out hm HV.out HV2.out).mono ?_; rintro e w ⟨rfl, rfl⟩; first | rw [M41.out])
              go_ret
              exact ⟨by rw [HE.out]; rfl, rfl⟩
          · obtain ⟨d, rfl⟩ : ∃ d', d = d' + 1 := ⟨d - 1, by omega⟩
            have hd0 : (((d : Int) + 1) == 0) = false := by simp; omega
            have HN : Hid (R = modF ks ts (n - (j + 1)) (j + 1) d (br) (cnt) emp) := by show R = _; rw [HR.out, modF_close h41]
            clear HR
            clear h41 hltb hd
            go_wp2_with (go_at_call 21; refine (mark_any ks ts _ _ _ _ _ _ _ _ HL.out hm HV.out HV2.out).mono ?_; rintro e w ⟨rfl, rfl⟩; first | rw [M41.out])
            go_round
            case rel => exact ⟨j + 1, d, br, cnt, emp, by omega, by omega, by go_num, by go_num, rfl, rfl, rfl, by omega, by omega, by omega, by omega, by omega, HN⟩
            case measure => simp [intOf]; omega
      · have hj : n - j = 0 := by omega
        rw [hj] at HR
        have HE : Hid (R = if emp then 0 else cnt) := by show R = _; rw [HR.out, modF_end]
        clear HR hj
        cases emp
        · go_wp2
          go_ret
          exact ⟨by rw [HE.out]; rfl, rfl⟩
        · go_wp2
          go_ret
          exact ⟨by rw [HE.out]; rfl, rfl⟩

end Go.Proofs.Qxb6605218a
