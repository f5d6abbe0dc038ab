/-
  postgresReader.arguments (20): over a fitting table it computes modF too.
-/
import Derived.Test.Qxb6605218aModel
namespace Go.Proofs.Qxb6605218a
open Go.RowKit
set_option linter.unusedVariables false

/-- the reader in its box, its tokens, its table -/
structure Rd (ks : List Int) (ts : List ByteArray) (cs : List Int) (a3 a4 : Option Addr) (n nc : Nat) (w wr : World) : Prop where
  bel : Below w.heap.size w wr
  hi : w.heap.size < wr.heap.size
  c0 : wr.cell? ⟨w.heap.size, 0, none⟩ = some (.slice a3 n n)
  c1 : wr.cell? ⟨w.heap.size, 1, none⟩ = some (.slice a4 nc nc)
  tv : TV wr a3 n ks ts
  sv : SV wr a4 nc (iv cs)

theorem Rd.on {ks : List Int} {ts : List ByteArray} {cs : List Int} {a3 a4 : Option Addr} {n nc : Nat} {w wr w' : World} (h : Rd ks ts cs a3 a4 n nc w wr) (k : Below wr.heap.size wr w') : Rd ks ts cs a3 a4 n nc w w' :=
  ⟨h.bel.trans (k.mono h.bel.size), Nat.lt_of_lt_of_le h.hi k.size, by rw [k.cell (show (⟨w.heap.size, 0, none⟩ : Addr).block < _ from h.hi)]; exact h.c0, by rw [k.cell (show (⟨w.heap.size, 1, none⟩ : Addr).block < _ from h.hi)]; exact h.c1, h.tv.on k, h.sv.on k⟩

theorem Rd.cells {ks : List Int} {ts : List ByteArray} {cs : List Int} {a3 a4 : Option Addr} {n nc : Nat} {w wr : World} (h : Rd ks ts cs a3 a4 n nc w wr) : wr.cell? ⟨w.heap.size, 0, none⟩ = some (.slice a3 n n) ∧ wr.cell? ⟨w.heap.size, 1, none⟩ = some (.slice a4 nc nc) := ⟨h.c0, h.c1⟩

theorem rd_start {ks : List Int} {ts : List ByteArray} {cs : List Int} {a3 a4 : Option Addr} {n nc : Nat} {w : World} (t : TypeId) (T : TV w a3 n ks ts) (V : SV w a4 nc (iv cs)) : Rd ks ts cs a3 a4 n nc w (w.alloc (.cells #[.slice a3 n n, .slice a4 nc nc] t)) := by
  have k : Below w.heap.size w (w.alloc (.cells #[.slice a3 n n, .slice a4 nc nc] t)) := (Below.refl _ _).alloc (Nat.le_refl _) _
  exact ⟨k, by simp, by simp, by simp, T.on k, V.on k⟩

set_option maxHeartbeats 2000000 in
theorem args_no (ks : List Int) (ts : List ByteArray) (cs : List Int) (a3 a4 : Option Addr) (n nc : Nat) (i q : Int) (w : World) (hn : ks.length = n) (hm : n ≤ 1048576) (T : TV w a3 n ks ts) (V : SV w a4 nc (iv cs)) (hq : wrap64 (i + 1) = q) (hM : markB ks ts q ⟨#[40]⟩ = false) :
    Calls Try.prog 20 #[.agg #[.slice a3 n n, .slice a4 nc nc], .int .i64 i] w fun e w' => e = .returned (.int .i64 1) ∧ Below w.heap.size w w' := by
  have R0 := rd_start (n := n) (nc := nc) 39 T V
  have HL : Hid (ks.length = n) := hn
  have HM : Hid (markB ks ts q ⟨#[40]⟩ = false) := hM
  clear T V hn hM
  go_enter Try.func20, Try.ntmps20
  go_wp2_with (go_at_call 27; refine (punct_any ks ts _ _ _ _ _ _ _ HL.out hm R0.tv).mono ?_; rintro e w1 ⟨rfl, hb⟩; have R := R0.on hb; rw [HM.out])
  go_ret
  exact ⟨rfl, R.bel⟩

set_option maxHeartbeats 2000000 in
theorem args_yes (ks : List Int) (ts : List ByteArray) (cs : List Int) (a3 a4 : Option Addr) (n nc : Nat) (i : Int) (o : Nat) (w : World) (hn : ks.length = n) (hm : n ≤ 1048576) (hm3 : nc ≤ 1048576) (T : TV w a3 n ks ts) (V : SV w a4 nc (iv cs)) (hi : i = (o : Int) - 1) (ho : o < n) (hM : mkB ks ts o [40] = true) (hfit : fitF ks ts cs nc n 0 [] = true) :
    Calls Try.prog 20 #[.agg #[.slice a3 n n, .slice a4 nc nc], .int .i64 i] w fun e w' => e = .returned (.int .i64 (modF ks ts (n - (o + 1)) (o + 1) 0 0 1 true)) ∧ Below w.heap.size w w' := by
  have R0 := rd_start (n := n) (nc := nc) 39 T V
  have HL : Hid (ks.length = n) := hn
  have HI : Hid (i + 1 = (o : Int)) := by show i + 1 = (o : Int); omega
  have hi1 : -1 ≤ i := by omega
  have hi2 : i < (n : Int) - 1 := by omega
  have hsay := (fit_says cs nc hfit).2
  have HSay : Hid (∀ j, 0 ≤ j → j < 0 + n → mkB ks ts j [40] = true → j < nc ∧ ∃ c : Nat, cs.getD j 0 = c ∧ nextC ks ts (0 + n - (j + 1)) (j + 1) 0 = some c) := hsay
  obtain ⟨honc, c, hco, hnx⟩ := hsay o (by omega) (by omega) hM
  rw [Nat.zero_add] at hnx
  have hnc := nextC_at hnx
  obtain ⟨hc1, hc2, hcno, hccl⟩ := hnc
  have HM : Hid (markB ks ts (i + 1) ⟨#[40]⟩ = true) := by
    show markB ks ts (i + 1) ⟨#[40]⟩ = true
    rw [HI.out, mark_in ks ts o 40 (by rw [hn]; exact ho)]; exact hM
  have HX : Hid (nextC ks ts (n - (o + 1)) (o + 1) 0 = some c) := hnx
  have HCC : Hid (mkB ks ts c [41] = true) := hccl
  obtain ⟨b4, off4, ea4, _⟩ := V.at o honc
  subst ea4
  have HCO : Hid (cs.getD o 0 = (c : Int)) := hco
  obtain ⟨Rv, hRv⟩ : ∃ Rv, Rv = modF ks ts (n - (o + 1)) (o + 1) 0 0 1 true := ⟨_, rfl⟩
  have HRv : Hid (Rv = modF ks ts (n - (o + 1)) (o + 1) 0 0 1 true) := hRv
  rw [← hRv]
  have hcn : c < n := by omega
  clear T V hn hM hfit hsay hnx hcno hccl hco hRv hi hc2
  have ei : (i + 1).toNat = o := by have := HI.out; omega
  by_cases he : c = o + 1
  · subst he
    have HE : Hid (Rv = 0) := by
      show Rv = 0
      rw [HRv.out, show n - (o + 1) = (n - (o + 1 + 1)) + 1 by omega, modF_zero HCC.out]
      rfl
    have hv2 : ((((o + 1 : Nat) : Int)) == i + 2) = true := by have := HI.out; simp; omega
    go_enter Try.func20, Try.ntmps20
    go_wp2_with (go_at_call 27; refine (punct_any ks ts _ _ _ _ _ _ _ HL.out hm R0.tv).mono ?_; rintro e w1 ⟨rfl, hb⟩; have R := R0.on hb; obtain ⟨y0, y1⟩ := R.cells; rw [HM.out]; obtain ⟨b5, off5, e5, hc5⟩ := (R.sv).at o honc; simp only [Option.some.injEq, Addr.mk.injEq] at e5; obtain ⟨rfl, rfl, _⟩ := e5; unfold iv at hc5; rw [HCO.out] at hc5)
    go_ret
    exact ⟨by rw [HE.out]; rfl, R.bel⟩
  · have hv2 : (((c : Nat) : Int) == i + 2) = false := by have := HI.out; simp; omega
    go_enter Try.func20, Try.ntmps20
    go_wp2_with (go_at_call 27; refine (punct_any ks ts _ _ _ _ _ _ _ HL.out hm R0.tv).mono ?_; rintro e w1 ⟨rfl, hb⟩; have R := R0.on hb; obtain ⟨y0, y1⟩ := R.cells; rw [HM.out]; obtain ⟨b5, off5, e5, hc5⟩ := (R.sv).at o honc; simp only [Option.some.injEq, Addr.mk.injEq] at e5; obtain ⟨rfl, rfl, _⟩ := e5; unfold iv at hc5; rw [HCO.out] at hc5)
    have HS : Hid (i + 2 = ((o + 1 : Nat) : Int)) := by show i + 2 = ((o + 1 : Nat) : Int); have := HI.out; omega
    clear R0 hb y0 y1 hc5 hv2
    go_loopw [6, 7, 8] (fun cc bb jj wr => ∃ (j : Nat) (br cnt : Int), o + 1 ≤ j ∧ j ≤ c ∧ jj = .int .i64 j ∧ bb = .int .i64 br ∧ cc = .int .i64 cnt ∧ -(j : Int) ≤ br ∧ br ≤ j ∧ 0 ≤ cnt ∧ cnt ≤ j ∧ Rd ks ts cs a3 (some ⟨b4, off4, none⟩) n nc w wr ∧ Hid (Rv = modF ks ts (n - j) j 0 br cnt (decide (j = o + 1))) ∧ Hid (nextC ks ts (n - j) j 0 = some c)) (fun _ _ jj _ => c - (intOf jj).toNat)
    case atStart => exact ⟨o + 1, 0, 1, by omega, by omega, by rw [HS.out], rfl, rfl, by omega, by omega, by omega, by omega, R, by show Rv = _; rw [HRv.out]; simp, HX⟩
    case round =>
      clear R HRv HX HM
      obtain ⟨j, br, cnt, hoj, hjc, rfl, rfl, rfl, hb0, hb1, hc0, hc1', R, HR, HX⟩ := hrel
      obtain ⟨y0, y1⟩ := R.cells
      have hgw := R.hi
      by_cases hlt : j < c
      · rw [show n - j = (n - (j + 1)) + 1 by omega] at HR HX
        have hltb : decide ((j : Int) < (c : Int)) = true := by simp; omega
        cases h40 : mkB ks ts j [40]
        · have M40 : Hid (markB ks ts (j : Int) ⟨#[40]⟩ = false) := by show markB ks ts (j : Int) ⟨#[40]⟩ = false; rw [mark_in ks ts j 40 (by rw [HL.out]; omega)]; exact h40
          have h41 : mkB ks ts j [41] = false := by
            cases h41 : mkB ks ts j [41]
            · rfl
            · have := HX.out
              rw [nextC_zero h40 h41] at this
              simp at this; omega
          have HX' : Hid (nextC ks ts (n - (j + 1)) (j + 1) 0 = some c) := by
            show nextC ks ts (n - (j + 1)) (j + 1) 0 = some c
            rw [← nextC_other h40 h41]; exact HX.out
          have HD : Hid (decide (j + 1 = o + 1) = false) := by show decide (j + 1 = o + 1) = false; simp; omega
          clear HX
          cases h91 : mkB ks ts j [91]
          · have M91 : Hid (markB ks ts (j : Int) ⟨#[91]⟩ = false) := by show markB ks ts (j : Int) ⟨#[91]⟩ = false; rw [mark_in ks ts j 91 (by rw [HL.out]; omega)]; exact h91
            cases h93 : mkB ks ts j [93]
            · have M93 : Hid (markB ks ts (j : Int) ⟨#[93]⟩ = false) := by show markB ks ts (j : Int) ⟨#[93]⟩ = false; rw [mark_in ks ts j 93 (by rw [HL.out]; omega)]; exact h93
              cases h44 : mkB ks ts j [44]
              · have M44 : Hid (markB ks ts (j : Int) ⟨#[44]⟩ = false) := by show markB ks ts (j : Int) ⟨#[44]⟩ = false; rw [mark_in ks ts j 44 (by rw [HL.out]; omega)]; exact h44
                have HN : Hid (Rv = modF ks ts (n - (j + 1)) (j + 1) 0 (br) (cnt) (decide (j + 1 = o + 1))) := by show Rv = _; rw [HD.out, HR.out, modF_plain h40 h41 h91 h93 (by rw [h44]; rfl)]
                clear HR
                clear h41 h40 h91 h93 h44 hltb
                go_wp2_with (go_at_call 27; refine (punct_any ks ts _ _ _ _ _ _ _ HL.out hm R.tv).mono ?_; rintro e w1 ⟨rfl, hb⟩; replace R := R.on hb; obtain ⟨y0, y1⟩ := R.cells; clear hb; first | rw [M40.out] | rw [M91.out] | rw [M93.out] | rw [M44.out])
                go_roundw
                case rel => exact ⟨j + 1, br, cnt, by omega, by omega, by go_num, rfl, rfl, by omega, by omega, by omega, by omega, R, HN, HX'⟩
                case measure => simp [intOf]; omega
              · have M44 : Hid (markB ks ts (j : Int) ⟨#[44]⟩ = true) := by show markB ks ts (j : Int) ⟨#[44]⟩ = true; rw [mark_in ks ts j 44 (by rw [HL.out]; omega)]; exact h44
                by_cases hbr : br = 0
                · have hbrb : (br == 0) = true := by simpa using hbr
                  have HN : Hid (Rv = modF ks ts (n - (j + 1)) (j + 1) 0 (br) (cnt + 1) (decide (j + 1 = o + 1))) := by show Rv = _; rw [HD.out, HR.out, modF_comma h40 h41 h91 h93 (by rw [h44, hbrb]; rfl)]
                  clear HR
                  clear h41 h40 h91 h93 h44 hltb hbr
                  go_wp2_with (go_at_call 27; refine (punct_any ks ts _ _ _ _ _ _ _ HL.out hm R.tv).mono ?_; rintro e w1 ⟨rfl, hb⟩; replace R := R.on hb; obtain ⟨y0, y1⟩ := R.cells; clear hb; first | rw [M40.out] | rw [M91.out] | rw [M93.out] | rw [M44.out])
                  go_roundw
                  case rel => exact ⟨j + 1, br, cnt + 1, by omega, by omega, by go_num, rfl, rfl, by omega, by omega, by omega, by omega, R, HN, HX'⟩
                  case measure => simp [intOf]; omega
                · have hbrb : (br == 0) = false := by simpa using hbr
                  have HN : Hid (Rv = modF ks ts (n - (j + 1)) (j + 1) 0 (br) (cnt) (decide (j + 1 = o + 1))) := by show Rv = _; rw [HD.out, HR.out, modF_plain h40 h41 h91 h93 (by rw [h44, hbrb]; rfl)]
                  clear HR
                  clear h41 h40 h91 h93 h44 hltb hbr
                  go_wp2_with (go_at_call 27; refine (punct_any ks ts _ _ _ _ _ _ _ HL.out hm R.tv).mono ?_; rintro e w1 ⟨rfl, hb⟩; replace R := R.on hb; obtain ⟨y0, y1⟩ := R.cells; clear hb; first | rw [M40.out] | rw [M91.out] | rw [M93.out] | rw [M44.out])
                  go_roundw
                  case rel => exact ⟨j + 1, br, cnt, by omega, by omega, by go_num, rfl, rfl, by omega, by omega, by omega, by omega, R, HN, HX'⟩
                  case measure => simp [intOf]; omega
            · have M93 : Hid (markB ks ts (j : Int) ⟨#[93]⟩ = true) := by show markB ks ts (j : Int) ⟨#[93]⟩ = true; rw [mark_in ks ts j 93 (by rw [HL.out]; omega)]; exact h93
              have HN : Hid (Rv = modF ks ts (n - (j + 1)) (j + 1) 0 (br - 1) (cnt) (decide (j + 1 = o + 1))) := by show Rv = _; rw [HD.out, HR.out, modF_rb h40 h41 h91 h93]
              clear HR
              clear h41 h40 h91 h93 hltb
              go_wp2_with (go_at_call 27; refine (punct_any ks ts _ _ _ _ _ _ _ HL.out hm R.tv).mono ?_; rintro e w1 ⟨rfl, hb⟩; replace R := R.on hb; obtain ⟨y0, y1⟩ := R.cells; clear hb; first | rw [M40.out] | rw [M91.out] | rw [M93.out])
              go_roundw
              case rel => exact ⟨j + 1, br - 1, cnt, by omega, by omega, by go_num, rfl, rfl, by omega, by omega, by omega, by omega, R, HN, HX'⟩
              case measure => simp [intOf]; omega
          · have M91 : Hid (markB ks ts (j : Int) ⟨#[91]⟩ = true) := by show markB ks ts (j : Int) ⟨#[91]⟩ = true; rw [mark_in ks ts j 91 (by rw [HL.out]; omega)]; exact h91
            have HN : Hid (Rv = modF ks ts (n - (j + 1)) (j + 1) 0 (br + 1) (cnt) (decide (j + 1 = o + 1))) := by show Rv = _; rw [HD.out, HR.out, modF_lb h40 h41 h91]
            clear HR
            clear h41 h40 h91 hltb
            go_wp2_with (go_at_call 27; refine (punct_any ks ts _ _ _ _ _ _ _ HL.out hm R.tv).mono ?_; rintro e w1 ⟨rfl, hb⟩; replace R := R.on hb; obtain ⟨y0, y1⟩ := R.cells; clear hb; first | rw [M40.out] | rw [M91.out])
            go_roundw
            case rel => exact ⟨j + 1, br + 1, cnt, by omega, by omega, by go_num, rfl, rfl, by omega, by omega, by omega, by omega, R, HN, HX'⟩
            case measure => simp [intOf]; omega
        · have M40 : Hid (markB ks ts (j : Int) ⟨#[40]⟩ = true) := by show markB ks ts (j : Int) ⟨#[40]⟩ = true; rw [mark_in ks ts j 40 (by rw [HL.out]; omega)]; exact h40
          obtain ⟨hjnc, c', hcj, hnx⟩ := HSay.out j (by omega) (by omega) h40
          rw [Nat.zero_add] at hnx
          have hat := nextC_at hnx
          have HX' : Hid (nextC ks ts (n - (c' + 1)) (c' + 1) 0 = some c) := by
            show nextC ks ts (n - (c' + 1)) (c' + 1) 0 = some c
            have h1 := HX.out
            rw [nextC_open h40, show (0 : Nat) + 1 = 0 + 1 + 0 by omega, nextC_skip hnx] at h1
            rwa [show j + 1 + (n - (j + 1)) - (c' + 1) = n - (c' + 1) by omega] at h1
          have hat' := nextC_at HX'.out
          have HN : Hid (Rv = modF ks ts (n - (c' + 1)) (c' + 1) 0 br cnt (decide (c' + 1 = o + 1))) := by
            show Rv = _
            rw [HR.out, modF_open h40, show (0 : Nat) + 1 = 0 + 1 + 0 by omega, modF_skip hnx, show j + 1 + (n - (j + 1)) - (c' + 1) = n - (c' + 1) by omega, show decide (c' + 1 = o + 1) = false by simp; omega]
          have hcc' : c' + 1 ≤ c := hat'.1
          have hjc' : j + 1 ≤ c' := hat.1
          have HCJ : Hid (cs.getD j 0 = (c' : Int)) := hcj
          clear hat hat' hnx HX HR hcj hltb h40
          go_wp2_with (go_at_call 27; refine (punct_any ks ts _ _ _ _ _ _ _ HL.out hm R.tv).mono ?_; rintro e w1 ⟨rfl, hb⟩; replace R := R.on hb; obtain ⟨y0, y1⟩ := R.cells; clear hb; rw [M40.out]; obtain ⟨b5, off5, e5, hc5⟩ := (R.sv).at j hjnc; simp only [Option.some.injEq, Addr.mk.injEq] at e5; obtain ⟨rfl, rfl, _⟩ := e5; unfold iv at hc5; rw [HCJ.out] at hc5)
          go_roundw
          case rel => exact ⟨c' + 1, br, cnt, by omega, by omega, by go_num, rfl, rfl, by omega, by omega, by omega, by omega, R, HN, HX'⟩
          case measure => simp [intOf]; omega
      · have hjc2 : j = c := by omega
        subst hjc2
        have HE : Hid (Rv = cnt) := by
          show Rv = cnt
          rw [HR.out, show n - j = (n - (j + 1)) + 1 by omega, modF_zero HCC.out, show decide (j = o + 1) = false by simp; omega]
          rfl
        clear HR HX
        go_wp2
        go_ret
        exact ⟨by rw [HE.out]; rfl, R.bel⟩

end Go.Proofs.Qxb6605218a
