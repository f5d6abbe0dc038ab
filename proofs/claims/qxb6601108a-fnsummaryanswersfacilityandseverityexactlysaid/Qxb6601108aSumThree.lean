/-
  The walk of FnSummaryAnswersFacilityAndSeverityExactly (7), kind 3, inside the query's domain.
-/
import Derived.Test.Qxb6601108aSumDefs
namespace Go.Proofs.Qxb6601108a
open Go.RowKit
set_option linter.unusedVariables false

set_option maxRecDepth 100000 in
set_option maxHeartbeats 2000000 in
theorem sum_three (n : Int) (a : Option Addr) (len cap : Nat) (zs F : List Int) (w : World) (hn : a = none → len = 0 ∧ cap = 0) (hr : Reads .i64 w a len zs) (hlz : zs.length = len) (hl : len ≤ 65536) (hF : F.length = 64) (hFb : ∀ i, 0 ≤ F.getD i 0 ∧ F.getD i 0 ≤ 255) (hd : Hid (domB 3 n 0 0 0 0 = true)) :
    Calls Try.prog 7 #[.int .i64 3, .int .i64 n, .slice a len cap, .agg (arr .u8 F)] w fun e w' => e = .returned (.bool true) ∧ Below w.heap.size w w' := by
  have z49 := zero49
  have HR : Hid (Reads .i64 w a len zs) := hr
  have HN : Hid (a = none → len = 0 ∧ cap = 0) := hn
  have HF : Hid (F.length = 64) := hF
  have HB : Hid (∀ i, 0 ≤ F.getD i 0 ∧ F.getD i 0 ≤ 255) := hFb
  have HZ : Hid (zs.length = len) := hlz
  clear hr hn hF hFb hlz
  have hl26 : decide (65536 < (len : Int)) = false := by simp; omega
  go_enter Try.func7, Try.ntmps7
  go_wp2_with (first | (go_at_call 22; refine (bytes_yes _ _ _ _ _ _ _ (by omega)).mono ?_; rintro e w1 ⟨rfl, hb1⟩) | (go_at_call 23; refine (dom_any _ _ _ _ _ _ _).mono ?_; rintro e w2 ⟨rfl, hb2⟩; rw [hd.out]) | (refine wpList_load_row rfl 44 _ rfl _ rfl _ _ _ _ (heap_alloc_new _ _) Try.underlying44 rfl (hi44 F HF.out) ?_))
  have hs1 := hb1.size
  have hs2 := hb2.size
  simp at hs1
  have hf2 : w2.heap[w.heap.size]? = some (.cells (arr .u8 F) 44) := by rw [hb2.block _ (by omega), hb1.block _ (by simp), heap_alloc_new]
  have hw2 : Below w.heap.size w w2 := ((Below.refl _ _).alloc (Nat.le_refl _) _).trans ((hb1.mono (by simp)).trans (hb2.mono (by omega)))
  have HR2 : Hid (Reads .i64 w2 a len zs) := reads_on HR.out hw2
  clear hb1 hb2
  go_loop [9] (fun i => ∃ k : Nat, k ≤ len ∧ i = .int .i64 k ∧ Hid (∀ j, j < k → validB (zs.getD j 0) = true)) (fun i => len - (intOf i).toNat)
  case atStart => exact ⟨0, by omega, rfl, by show ∀ j, j < 0 → _; omega⟩
  case round =>
    obtain ⟨k, hkl, rfl, hv⟩ := hrel
    by_cases hlt : k < len
    · obtain ⟨b, off, rfl, hc⟩ := reads_at HR2.out k hlt
      cases hvk : validB (zs.getD k 0)
      · have HV : Hid (validB (zs.getD k 0) = false) := hvk
        clear hvk
        generalize zs.getD k 0 = x at *
        go_wp2_with (go_at_call 19; refine (valid_any _ _).mono ?_; rintro e wv ⟨rfl, rfl⟩; rw [HV.out])
        go_ret
        exact ⟨rfl, hw2⟩
      · have HV : Hid (∀ j, j < k + 1 → validB (zs.getD j 0) = true) := by
          show ∀ j, j < k + 1 → validB (zs.getD j 0) = true
          intro j hj
          by_cases e : j = k
          · subst e; exact hvk
          · exact hv.out j (by omega)
        have HVk : Hid (validB (zs.getD k 0) = true) := hvk
        clear hvk hv
        generalize hx : zs.getD k 0 = x at hc HVk
        clear hx
        go_wp2_with (go_at_call 19; refine (valid_any _ _).mono ?_; rintro e wv ⟨rfl, rfl⟩; rw [HVk.out])
        go_round
        case rel => exact ⟨k + 1, by omega, by go_num, HV⟩
        case measure => simp [intOf]; omega
    · obtain rfl : len = k := by omega
      go_wp2_with (go_at_call 24; refine (clone_any _ _ _ zs _ (by omega) HN.out HR2.out).mono ?_; rintro e w3 ⟨a', rfl, hb3, hcl⟩)
      have hs3 := hb3.size
      have S0 : Sum F (zeros 68) w3.heap.size w (w3.alloc (.cells (arr .u8 (zeros 68)) 49)) := by
        refine ⟨(hw2.trans (hb3.mono (by omega))).alloc (by omega) _, by omega, by simp, ?_, heap_alloc_new _ _⟩
        rw [heap_alloc_old _ _ (by omega), hb3.block _ (by omega)]; exact hf2
      have C0 : CloneIs len a' w3.heap.size zs (w3.alloc (.cells (arr .u8 (zeros 68)) 49)) := by
        rcases hcl with h | ⟨g, e, O⟩
        · exact .inl h
        · have := O.hi
          exact .inr ⟨g, e, by omega, ⟨Nat.zero_le _, by simp; omega, (O.on ((Below.refl _ _).alloc (Nat.le_refl _) _)).cell, (O.on ((Below.refl _ _).alloc (Nat.le_refl _) _)).fz⟩⟩
      clear hf2 hw2 HR2 HR HN hb3 hcl z49
      generalize w3.heap.size = bs at *
      go_loopw [11] (fun i wr => ∃ (k : Nat) (T : List Int), k ≤ 64 ∧ i = .int .i64 k ∧ T.length = 68 ∧ (∀ i, 0 ≤ T.getD i 0 ∧ T.getD i 0 ≤ 255) ∧ (∀ i, i < 4 → T.getD i 0 = 0) ∧ Sum F T bs w wr ∧ CloneIs len a' bs zs wr) (fun i _ => 64 - (intOf i).toNat)
      case atStart => exact ⟨0, zeros 68, by omega, rfl, by simp [zeros], zeros_bd 68, fun i _ => zeros_at 68 i, S0, C0⟩
      case round =>
        clear S0 C0
        obtain ⟨k, T, hk64, rfl, hT, hTb, hTz, S, C⟩ := hrel
        by_cases hlt : k < 64
        · have hc1 : wr.cell? ⟨w.heap.size, k, none⟩ = some (.int .u8 (F.getD k 0)) := by
            rw [cell_of_row _ _ _ _ _ _ S.fi]; exact arr_cell _ _ _ (by rw [HF.out]; exact hlt)
          have ho : (4 + (k : Int)).toNat = 4 + k := by omega
          have hc2 : wr.cell? ⟨bs, 4 + k, none⟩ = some (.int .u8 (T.getD (4 + k) 0)) := by
            rw [cell_of_row _ _ _ _ _ _ S.su]; exact arr_cell _ _ _ (by omega)
          have hf := frozen_of_row wr bs (4 + k) _ _ S.su
          have HTb : Hid (∀ i, 0 ≤ T.getD i 0 ∧ T.getD i 0 ≤ 255) := hTb
          have HTz : Hid (∀ i, i < 4 → T.getD i 0 = 0) := hTz
          have HTl : Hid (T.length = 68) := hT
          have hxb := HB.out k
          clear hTb hTz hT
          generalize F.getD k 0 = x at *
          go_wp2
          go_roundw
          case rel =>
            refine ⟨k + 1, T.set (4 + k) x, by omega, by go_num, by simpa using HTl.out, fun i => ?_, fun i hi => ?_, S.set _ _, C.set _ _⟩
            · rw [getD_set _ _ _ _ (by rw [HTl.out]; omega)]
              split
              · exact hxb
              · exact HTb.out i
            · rw [getD_set _ _ _ _ (by rw [HTl.out]; omega), if_neg (by omega)]
              exact HTz.out i hi
          case measure => simp [intOf]; omega
        · have hltb : decide ((k : Int) < 64) = false := by simp; omega
          have I0 := inv_start T hT hTb hTz
          clear hTb hTz hT
          go_wp2_with (go_at_call 20; refine (zzq_any _ _ _ _ _ _ _ _).mono ?_; rintro e w4 ⟨rfl, hb4⟩)
          have hs4 := hb4.size
          have S4 := (S.on hb4).on ((Below.refl w4.heap.size w4).alloc (Nat.le_refl _) (.cells #[.int .i64 3, .string ⟨#[]⟩, .int .i64 n, .int .u16 0, .int .u16 0, .int .u16 0, .int .u16 0] 39))
          have C4 := (C.on hb4).on ((Below.refl w4.heap.size w4).alloc (Nat.le_refl _) (.cells #[.int .i64 3, .string ⟨#[]⟩, .int .i64 n, .int .u16 0, .int .u16 0, .int .u16 0, .int .u16 0] 39))
          have Q4 : QIs 3 n w4.heap.size (w4.alloc (.cells #[.int .i64 3, .string ⟨#[]⟩, .int .i64 n, .int .u16 0, .int .u16 0, .int .u16 0, .int .u16 0] 39)) := heap_alloc_new _ _
          have hne : w4.heap.size ≠ bs := by have := S.hi; omega
          clear S C hb4 hs4
          generalize w4.heap.size = bq at *
          go_loopw [13, 14, 15, 16, 17] (fun some i _ _ _ wr => ∃ (k : Nat) (T : List Int), k ≤ len ∧ i = .int .i64 k ∧ some = .bool ((zs.take k).any (mB 3 n)) ∧ Inv T (zs.take k) ∧ Sum F T bs w wr ∧ CloneIs len a' bs zs wr ∧ QIs 3 n bq wr) (fun _ i _ _ _ _ => len - (intOf i).toNat)
          case atStart => exact ⟨0, T, by omega, rfl, by simp, by simpa using I0, S4, C4, Q4⟩
          case round =>
            clear S4 C4 Q4 I0
            obtain ⟨k, T, hkl, rfl, rfl, I, S, C, Q⟩ := hrel
            by_cases hlt : k < len
            · obtain ⟨g, rfl, hcg⟩ := C.at k hlt
              obtain ⟨y0, y1, y2, y3, y4, y5, y6⟩ := Q.cells
              have hvk := hv.out k hlt
              have HT : Hid (zs.take (k + 1) = zs.take k ++ [zs.getD k 0]) := take_snoc (by rw [HZ.out]; exact hlt)
              generalize zs.getD k 0 = p at *
              generalize zs.take k = ps at *
              simp only [validB, decide_eq_true_eq] at hvk
              by_cases hp : p = -1
              · subst hp
                clear hvk
                cases hm : mB 3 n (-1)
                · have HM : Hid (mB 3 n (-1) = false) := hm
                  clear hm
                  go_wp2_with (go_at_call 21; refine (matches_k 3 _ _ (by omega) _ _ _ _ _ _ (by omega) (by omega)).mono ?_; rintro e w5 ⟨rfl, hb5⟩; rw [HM.out]; have S5 := S.on hb5; have C5 := C.on hb5; have Q5 := Q.on hb5)
                  go_roundw
                  case rel => exact ⟨k + 1, T, by omega, by go_num, by rw [HT.out, List.any_append]; simp [HM.out], by rw [HT.out]; exact inv_none I, S5, C5, Q5⟩
                  case measure => simp [intOf]; omega
                · have HM : Hid (mB 3 n (-1) = true) := hm
                  clear hm
                  go_wp2_with (go_at_call 21; refine (matches_k 3 _ _ (by omega) _ _ _ _ _ _ (by omega) (by omega)).mono ?_; rintro e w5 ⟨rfl, hb5⟩; rw [HM.out]; have S5 := S.on hb5; have C5 := C.on hb5; have Q5 := Q.on hb5)
                  go_roundw
                  case rel => exact ⟨k + 1, T, by omega, by go_num, by rw [HT.out, List.any_append]; simp [HM.out], by rw [HT.out]; exact inv_none I, S5, C5, Q5⟩
                  case measure => simp [intOf]; omega
              · have hp0 : 0 ≤ p := by omega
                have hp1 : p ≤ 191 := by omega
                have hpb : (p != -1) = true := by simpa using hp
                clear hvk hp
                cases hm : mB 3 n p
                · have HM : Hid (mB 3 n p = false) := hm
                  clear hm
                  have hpl : -1 ≤ p := by omega
                  go_wp2_with (first | (go_at_call 21; refine (matches_k 3 _ _ (by omega) _ _ _ _ _ _ hpl hp1).mono ?_; rintro e w5 ⟨rfl, hb5⟩; rw [HM.out]; have S5 := S.on hb5; have C5 := C.on hb5; have Q5 := Q.on hb5) | (go_at_call 25; refine (split_any _ _ hp0 hp1).mono ?_; rintro e wv ⟨rfl, rfl⟩))
                  have g0 : 0 ≤ p / 8 / 8 := by omega
                  have g1 : p / 8 / 8 ≤ 2 := by omega
                  have g2 : 0 ≤ p / 8 := by omega
                  have g3 : p / 8 ≤ 23 := by omega
                  have g4 : 0 ≤ p / 8 % 8 := by omega
                  have g5 : p / 8 % 8 ≤ 7 := by omega
                  have g6 : 0 ≤ p % 8 := by omega
                  have g7 : p % 8 ≤ 7 := by omega
                  have hx : wv.cell? ⟨bs, (p / 8 / 8).toNat, none⟩ = some (.int .u8 (T.getD (p / 8 / 8).toNat 0)) := by rw [cell_of_row _ _ _ _ _ _ S5.su]; exact arr_cell _ _ _ (by rw [I.len]; omega)
                  have hxf := frozen_of_row wv bs (p / 8 / 8).toNat _ _ S5.su
                  have t1 : (p / 8).tdiv 8 = p / 8 / 8 := Int.tdiv_eq_ediv_of_nonneg g2
                  have t2 : (p / 8).tmod 8 = p / 8 % 8 := Int.tmod_eq_emod_of_nonneg g2
                  have t3 : IntKind.i64.wrap (p / 8 / 8) = p / 8 / 8 := by rw [IntKind.wrap_i64]; omega
                  have t4 : IntKind.i64.wrap (p / 8 % 8) = p / 8 % 8 := by rw [IntKind.wrap_i64]; omega
                  have t5 : wrap64 (p / 8 / 8) = p / 8 / 8 := by unfold wrap64; omega
                  have t6 : wrap64 (p / 8 % 8) = p / 8 % 8 := by unfold wrap64; omega
                  have t7 : p / 8 / 8 < 68 := by omega
                  have HI : Hid (Inv ((T.set (p / 8 / 8).toNat (bits .or .u8 (T.getD (p / 8 / 8).toNat 0) (2 ^ (p / 8 % 8).toNat))).set 3 (bits .or .u8 ((T.set (p / 8 / 8).toNat (bits .or .u8 (T.getD (p / 8 / 8).toNat 0) (2 ^ (p / 8 % 8).toNat))).getD 3 0) (2 ^ (p % 8).toNat))) (ps ++ [p])) := inv_some I p hp0 hp1
                  have hl1 : (T.set (p / 8 / 8).toNat (bits .or .u8 (T.getD (p / 8 / 8).toNat 0) (2 ^ (p / 8 % 8).toNat))).length = 68 := by simpa using I.len
                  have S6 := (S5.set (p / 8 / 8).toNat (bits .or .u8 (T.getD (p / 8 / 8).toNat 0) (2 ^ (p / 8 % 8).toNat))).drew
                  have C6 := (C5.set (p / 8 / 8).toNat (.int .u8 (bits .or .u8 (T.getD (p / 8 / 8).toNat 0) (2 ^ (p / 8 % 8).toNat)))).drew
                  have Q6 := (Q5.set bs (p / 8 / 8).toNat hne (.int .u8 (bits .or .u8 (T.getD (p / 8 / 8).toNat 0) (2 ^ (p / 8 % 8).toNat)))).on ((Below.refl _ _).drew)
                  generalize T.set (p / 8 / 8).toNat (bits .or .u8 (T.getD (p / 8 / 8).toNat 0) (2 ^ (p / 8 % 8).toNat)) = T1 at *
                  have HL1 : Hid (T1.length = 68) := hl1
                  have hx3 := arr_cell .u8 T1 3 (by omega)
                  clear hl1 I S C Q hcg y0 y1 y2 y3 y4 y5 y6 hb5
                  generalize T1.getD 3 0 = x3 at *
                  generalize T.getD (p / 8 / 8).toNat 0 = x at *
                  go_region_with (go_at_call 26; refine (pow2_int _ _ g4 g5).mono ?_; rintro e wv' ⟨rfl, rfl⟩)
                  all_goals
                    clear hx hxf S5 C5 Q5
                    obtain ⟨w6, hw6⟩ : ∃ w6, w6 = (World.setCell wv ⟨bs, (p / 8 / 8).toNat, none⟩ (.int .u8 (bits .or .u8 x (2 ^ (p / 8 % 8).toNat)))).drew := ⟨_, rfl⟩
                    rw [← hw6] at S6 C6 Q6 ⊢
                    clear hw6
                    have hc3 : w6.cell? ⟨bs, 3, none⟩ = some (.int .u8 x3) := by rw [cell_of_row _ _ _ _ _ _ S6.su]; exact hx3
                    have hf3 := frozen_of_row w6 bs 3 _ _ S6.su
                    clear hx3
                    go_wp2
                    go_region_with (go_at_call 26; refine (pow2_int _ _ g6 g7).mono ?_; rintro e wv' ⟨rfl, rfl⟩)
                    all_goals
                      go_wp2
                      go_roundw
                      case rel => exact ⟨k + 1, T1.set 3 (bits .or .u8 x3 (2 ^ (p % 8).toNat)), by omega, by go_num, by rw [HT.out, List.any_append]; simp [HM.out], by rw [HT.out]; exact HI.out, (S6.set _ _).drew, (C6.set _ _).drew, (Q6.set bs 3 hne _).on ((Below.refl _ _).drew)⟩
                      case measure => simp [intOf]; omega
                · have HM : Hid (mB 3 n p = true) := hm
                  clear hm
                  have hpl : -1 ≤ p := by omega
                  go_wp2_with (first | (go_at_call 21; refine (matches_k 3 _ _ (by omega) _ _ _ _ _ _ hpl hp1).mono ?_; rintro e w5 ⟨rfl, hb5⟩; rw [HM.out]; have S5 := S.on hb5; have C5 := C.on hb5; have Q5 := Q.on hb5) | (go_at_call 25; refine (split_any _ _ hp0 hp1).mono ?_; rintro e wv ⟨rfl, rfl⟩))
                  have g0 : 0 ≤ p / 8 / 8 := by omega
                  have g1 : p / 8 / 8 ≤ 2 := by omega
                  have g2 : 0 ≤ p / 8 := by omega
                  have g3 : p / 8 ≤ 23 := by omega
                  have g4 : 0 ≤ p / 8 % 8 := by omega
                  have g5 : p / 8 % 8 ≤ 7 := by omega
                  have g6 : 0 ≤ p % 8 := by omega
                  have g7 : p % 8 ≤ 7 := by omega
                  have hx : wv.cell? ⟨bs, (p / 8 / 8).toNat, none⟩ = some (.int .u8 (T.getD (p / 8 / 8).toNat 0)) := by rw [cell_of_row _ _ _ _ _ _ S5.su]; exact arr_cell _ _ _ (by rw [I.len]; omega)
                  have hxf := frozen_of_row wv bs (p / 8 / 8).toNat _ _ S5.su
                  have t1 : (p / 8).tdiv 8 = p / 8 / 8 := Int.tdiv_eq_ediv_of_nonneg g2
                  have t2 : (p / 8).tmod 8 = p / 8 % 8 := Int.tmod_eq_emod_of_nonneg g2
                  have t3 : IntKind.i64.wrap (p / 8 / 8) = p / 8 / 8 := by rw [IntKind.wrap_i64]; omega
                  have t4 : IntKind.i64.wrap (p / 8 % 8) = p / 8 % 8 := by rw [IntKind.wrap_i64]; omega
                  have t5 : wrap64 (p / 8 / 8) = p / 8 / 8 := by unfold wrap64; omega
                  have t6 : wrap64 (p / 8 % 8) = p / 8 % 8 := by unfold wrap64; omega
                  have t7 : p / 8 / 8 < 68 := by omega
                  have HI : Hid (Inv ((T.set (p / 8 / 8).toNat (bits .or .u8 (T.getD (p / 8 / 8).toNat 0) (2 ^ (p / 8 % 8).toNat))).set 3 (bits .or .u8 ((T.set (p / 8 / 8).toNat (bits .or .u8 (T.getD (p / 8 / 8).toNat 0) (2 ^ (p / 8 % 8).toNat))).getD 3 0) (2 ^ (p % 8).toNat))) (ps ++ [p])) := inv_some I p hp0 hp1
                  have hl1 : (T.set (p / 8 / 8).toNat (bits .or .u8 (T.getD (p / 8 / 8).toNat 0) (2 ^ (p / 8 % 8).toNat))).length = 68 := by simpa using I.len
                  have S6 := (S5.set (p / 8 / 8).toNat (bits .or .u8 (T.getD (p / 8 / 8).toNat 0) (2 ^ (p / 8 % 8).toNat))).drew
                  have C6 := (C5.set (p / 8 / 8).toNat (.int .u8 (bits .or .u8 (T.getD (p / 8 / 8).toNat 0) (2 ^ (p / 8 % 8).toNat)))).drew
                  have Q6 := (Q5.set bs (p / 8 / 8).toNat hne (.int .u8 (bits .or .u8 (T.getD (p / 8 / 8).toNat 0) (2 ^ (p / 8 % 8).toNat)))).on ((Below.refl _ _).drew)
                  generalize T.set (p / 8 / 8).toNat (bits .or .u8 (T.getD (p / 8 / 8).toNat 0) (2 ^ (p / 8 % 8).toNat)) = T1 at *
                  have HL1 : Hid (T1.length = 68) := hl1
                  have hx3 := arr_cell .u8 T1 3 (by omega)
                  clear hl1 I S C Q hcg y0 y1 y2 y3 y4 y5 y6 hb5
                  generalize T1.getD 3 0 = x3 at *
                  generalize T.getD (p / 8 / 8).toNat 0 = x at *
                  go_region_with (go_at_call 26; refine (pow2_int _ _ g4 g5).mono ?_; rintro e wv' ⟨rfl, rfl⟩)
                  all_goals
                    clear hx hxf S5 C5 Q5
                    obtain ⟨w6, hw6⟩ : ∃ w6, w6 = (World.setCell wv ⟨bs, (p / 8 / 8).toNat, none⟩ (.int .u8 (bits .or .u8 x (2 ^ (p / 8 % 8).toNat)))).drew := ⟨_, rfl⟩
                    rw [← hw6] at S6 C6 Q6 ⊢
                    clear hw6
                    have hc3 : w6.cell? ⟨bs, 3, none⟩ = some (.int .u8 x3) := by rw [cell_of_row _ _ _ _ _ _ S6.su]; exact hx3
                    have hf3 := frozen_of_row w6 bs 3 _ _ S6.su
                    clear hx3
                    go_wp2
                    go_region_with (go_at_call 26; refine (pow2_int _ _ g6 g7).mono ?_; rintro e wv' ⟨rfl, rfl⟩)
                    all_goals
                      go_wp2
                      go_roundw
                      case rel => exact ⟨k + 1, T1.set 3 (bits .or .u8 x3 (2 ^ (p % 8).toNat)), by omega, by go_num, by rw [HT.out, List.any_append]; simp [HM.out], by rw [HT.out]; exact HI.out, (S6.set _ _).drew, (C6.set _ _).drew, (Q6.set bs 3 hne _).on ((Below.refl _ _).drew)⟩
                      case measure => simp [intOf]; omega
            · obtain rfl : len = k := by omega
              have e : zs.take len = zs := List.take_of_length_le (by rw [HZ.out]; exact Nat.le_refl _)
              rw [e] at I ⊢
              have hans := ans_eq I (fun p hp => by
                obtain ⟨i, hi, rfl⟩ := List.getElem_of_mem hp
                have := hv.out i (by rw [← HZ.out]; exact hi)
                simpa [hi] using this) 3 n (by omega) hd.out
              have HA : Hid (ansB 3 n T = zs.any (mB 3 n)) := hans
              clear hans e
              obtain ⟨y0, y1, y2, y3, y4, y5, y6⟩ := Q.cells
              go_wp2_with (first | (go_at_call 27; refine (may_k 3 _ (by omega) hd.out _ _ _ _ _ T _ I.len I.bd).mono ?_; rintro e w7 ⟨rfl, hb7⟩; rw [HA.out]) | (refine wpList_load_row rfl 49 _ rfl _ rfl _ _ _ _ S.su Try.underlying49 rfl (hi49 T I.len) ?_))
              go_ret
              exact ⟨rfl, (S.on hb7).bel⟩

end Go.Proofs.Qxb6601108a
