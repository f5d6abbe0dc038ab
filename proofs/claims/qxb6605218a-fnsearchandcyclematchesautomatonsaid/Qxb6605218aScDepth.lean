/-
  postgresReader.searchAndCycle (22) where SEARCH DEPTH stands at i.
-/
import Derived.Test.Qxb6605218aScPlain
namespace Go.Proofs.Qxb6605218a
open Go.RowKit
set_option linter.unusedVariables false

set_option maxRecDepth 100000 in
set_option maxHeartbeats 4000000 in
theorem sc_depth (ks : List Int) (ts : List ByteArray) (cs : List Int) (a3 a4 : Option Addr) (n nc : Nat) (i0 : Nat) (w : World) (hn : ks.length = n) (hm : n ≤ 1048576) (hsz : ∀ i, i < n → (ts.getD i ByteArray.empty).size ≤ 1048576) (T : TV w a3 n ks ts) (V : SV w a4 nc (iv cs)) (ho : i0 < n) (hS : kwB ks ts ((i0 : Nat) : Int) ⟨#[83, 69, 65, 82, 67, 72]⟩ = true) (hBREADTH : kwB ks ts ((i0 + 1 : Nat) : Int) ⟨#[66, 82, 69, 65, 68, 84, 72]⟩ = false) (hDEPTH : kwB ks ts ((i0 + 1 : Nat) : Int) ⟨#[68, 69, 80, 84, 72]⟩ = true) :
    Calls Try.prog 22 #[.agg #[.slice a3 n n, .slice a4 nc nc], .int .i64 (i0 : Int)] w fun e w' => e = .returned (.tuple #[.int .i64 (autF ks ts n i0 (n + 1 - i0) i0 0 false).1, .bool (autF ks ts n i0 (n + 1 - i0) i0 0 false).2]) ∧ Below w.heap.size w w' := by
  have R := rd_start (n := n) (nc := nc) 39 T V
  have HL : Hid (ks.length = n) := hn
  have HSZ : Hid (∀ i, i < n → (ts.getD i ByteArray.empty).size ≤ 1048576) := hsz
  clear T V hn hsz
  obtain ⟨Rv, hRv⟩ : ∃ Rv, Rv = autF ks ts n i0 (n + 1 - i0) i0 0 false := ⟨_, rfl⟩
  rw [← hRv]
  rw [show n + 1 - i0 = (n + 1 - (i0 + 1)) + 1 by omega] at hRv
  have HR : Hid (Rv = autF ks ts n i0 ((n + 1 - (i0 + 1)) + 1) i0 0 false) := hRv
  clear hRv
  have HR1 : Hid (Rv = autF ks ts n i0 ((n + 1 - (i0 + 2)) + 1) (i0 + 1) 1 false) := by show Rv = _; rw [HR.out, a0s hS, show n + 1 - (i0 + 1) = (n + 1 - (i0 + 2)) + 1 by omega]
  have fS : ((wordBA ks ts (i0 : Int)).toList == [83, 69, 65, 82, 67, 72]) = true := by rw [wd _ _ _ _ (by decide), show (i0 : Int) = ((i0 : Nat) : Int) by omega]; exact hS
  clear HR hS
  have hlt1 : i0 + 1 < n := by have := kw_lt hDEPTH; have := HL.out; omega
  have HR2 : Hid (Rv = autF ks ts n i0 ((n + 1 - (i0 + 3)) + 1) (i0 + 2) 2 false) := by show Rv = _; rw [HR1.out, a1d hBREADTH hDEPTH, show n + 1 - (i0 + 2) = (n + 1 - (i0 + 3)) + 1 by omega]
  have fBREADTH : ((wordBA ks ts ((i0 : Int) + 1)).toList == [66, 82, 69, 65, 68, 84, 72]) = false := by rw [wd _ _ _ _ (by decide), show ((i0 : Int) + 1) = ((i0 + 1 : Nat) : Int) by omega]; exact hBREADTH
  have fDEPTH : ((wordBA ks ts ((i0 : Int) + 1)).toList == [68, 69, 80, 84, 72]) = true := by rw [wd _ _ _ _ (by decide), show ((i0 : Int) + 1) = ((i0 + 1 : Nat) : Int) by omega]; exact hDEPTH
  clear HR1 hBREADTH hDEPTH
  cases hFI : kwB ks ts ((i0 + 2 : Nat) : Int) ⟨#[70, 73, 82, 83, 84]⟩
  · have HE : Hid (Rv = ((i0 : Int), false)) := by show Rv = _; rw [HR2.out, a2n hFI]
    have fFI : ((wordBA ks ts ((i0 : Int) + 2)).toList == [70, 73, 82, 83, 84]) = false := by rw [wd _ _ _ _ (by decide), show ((i0 : Int) + 2) = ((i0 + 2 : Nat) : Int) by omega]; exact hFI
    clear HR2 hFI
    go_enter Try.func22, Try.ntmps22
    go_wp2_with (go_at_call 28; refine (word_any ks ts _ _ _ _ _ _ HL.out hm HSZ.out R.tv).mono ?_; rintro e w1 ⟨rfl, hb⟩; replace R := R.on hb; obtain ⟨y0, y1⟩ := R.cells; clear hb)
    go_ret2
    exact ⟨by rw [HE.out]; rfl, R.bel⟩
  · have hlt2 : i0 + 2 < n := by have := kw_lt hFI; have := HL.out; omega
    have HR3 : Hid (Rv = autF ks ts n i0 ((n + 1 - (i0 + 4)) + 1) (i0 + 3) 3 false) := by show Rv = _; rw [HR2.out, a2y hFI, show n + 1 - (i0 + 3) = (n + 1 - (i0 + 4)) + 1 by omega]
    have fFI : ((wordBA ks ts ((i0 : Int) + 2)).toList == [70, 73, 82, 83, 84]) = true := by rw [wd _ _ _ _ (by decide), show ((i0 : Int) + 2) = ((i0 + 2 : Nat) : Int) by omega]; exact hFI
    clear HR2 hFI
    cases hBY : kwB ks ts ((i0 + 3 : Nat) : Int) ⟨#[66, 89]⟩
    · have HE : Hid (Rv = ((i0 : Int), false)) := by show Rv = _; rw [HR3.out, a3n hBY]
      have fBY : ((wordBA ks ts ((i0 : Int) + 3)).toList == [66, 89]) = false := by rw [wd _ _ _ _ (by decide), show ((i0 : Int) + 3) = ((i0 + 3 : Nat) : Int) by omega]; exact hBY
      clear HR3 hBY
      go_enter Try.func22, Try.ntmps22
      go_wp2_with (go_at_call 28; refine (word_any ks ts _ _ _ _ _ _ HL.out hm HSZ.out R.tv).mono ?_; rintro e w1 ⟨rfl, hb⟩; replace R := R.on hb; obtain ⟨y0, y1⟩ := R.cells; clear hb)
      go_ret2
      exact ⟨by rw [HE.out]; rfl, R.bel⟩
    · have hlt3 : i0 + 3 < n := by have := kw_lt hBY; have := HL.out; omega
      have HRn : Hid (Rv = autF ks ts n i0 (n + 1 - (i0 + 4)) (i0 + 4) 4 false) := by show Rv = _; rw [HR3.out, a3y hBY]
      have fBY : ((wordBA ks ts ((i0 : Int) + 3)).toList == [66, 89]) = true := by rw [wd _ _ _ _ (by decide), show ((i0 : Int) + 3) = ((i0 + 3 : Nat) : Int) by omega]; exact hBY
      clear HR3 hBY
      go_enter Try.func22, Try.ntmps22
      go_wp2_with (go_at_call 28; refine (word_any ks ts _ _ _ _ _ _ HL.out hm HSZ.out R.tv).mono ?_; rintro e w1 ⟨rfl, hb⟩; replace R := R.on hb; obtain ⟨y0, y1⟩ := R.cells; clear hb)
      refine (names_any ks ts cs _ _ _ _ _ (i0 + 4) _ (by omega) (by omega) HL.out hm R.tv R.sv).mono ?_
      rintro e w1 ⟨j1, ok, rfl, hb, NI⟩
      replace R := R.on hb
      obtain ⟨y0, y1⟩ := R.cells
      clear hb
      have hj1 := NI.le
      cases ok
      · have HE : Hid (Rv = ((j1 : Int), false)) := by show Rv = _; rw [HRn.out, NI.no rfl]
        clear HRn NI
        go_wp2_with (go_at_call 28; refine (word_any ks ts _ _ _ _ _ _ HL.out hm HSZ.out R.tv).mono ?_; rintro e w1 ⟨rfl, hb⟩; replace R := R.on hb; obtain ⟨y0, y1⟩ := R.cells; clear hb)
        go_ret2
        exact ⟨by rw [HE.out]; rfl, R.bel⟩
      · obtain ⟨hcm, hau⟩ := NI.yes rfl
        have HR5 : Hid (Rv = autF ks ts n i0 ((n + 1 - (j1 + 1)) + 1) j1 5 false) := by show Rv = _; rw [HRn.out, hau i0 false, show n + 1 - j1 = (n + 1 - (j1 + 1)) + 1 by omega]
        clear HRn NI hau
        cases hSET : kwB ks ts ((j1 : Nat) : Int) ⟨#[83, 69, 84]⟩
        · have HE : Hid (Rv = ((j1 : Int), false)) := by show Rv = _; rw [HR5.out, a5n hcm hSET]
          have fSET : ((wordBA ks ts (j1 : Int)).toList == [83, 69, 84]) = false := by rw [wd _ _ _ _ (by decide), show (j1 : Int) = ((j1 : Nat) : Int) by omega]; exact hSET
          clear HR5 hcm hSET
          go_wp2_with (go_at_call 28; refine (word_any ks ts _ _ _ _ _ _ HL.out hm HSZ.out R.tv).mono ?_; rintro e w1 ⟨rfl, hb⟩; replace R := R.on hb; obtain ⟨y0, y1⟩ := R.cells; clear hb)
          go_ret2
          exact ⟨by rw [HE.out]; rfl, R.bel⟩
        · have hlt1 : j1 < n := by have := kw_lt hSET; have := HL.out; omega
          have HR6 : Hid (Rv = autF ks ts n i0 ((n + 1 - (j1 + 2)) + 1) (j1 + 1) 6 false) := by show Rv = _; rw [HR5.out, a5s hcm hSET, show n + 1 - (j1 + 1) = (n + 1 - (j1 + 2)) + 1 by omega]
          have fSET1 : ((wordBA ks ts (j1 : Int)).toList == [83, 69, 84]) = true := by rw [wd _ _ _ _ (by decide), show (j1 : Int) = ((j1 : Nat) : Int) by omega]; exact hSET
          clear HR5 hcm hSET
          cases hNM : nameB ks ((j1 + 1 : Nat) : Int)
          · have HE : Hid (Rv = ((j1 : Int), false)) := by show Rv = _; rw [HR6.out, a6n hNM, show (((j1 + 1 : Nat) : Int)) - 1 = (j1 : Int) by omega]
            have HNM : Hid (nameB ks ((j1 : Int) + 1) = false) := by show nameB ks ((j1 : Int) + 1) = false; rw [show ((j1 : Int) + 1) = ((j1 + 1 : Nat) : Int) by omega]; exact hNM
            clear HR6 hNM
            go_wp2_with (first | (go_at_call 28; refine (word_any ks ts _ _ _ _ _ _ HL.out hm HSZ.out R.tv).mono ?_; rintro e w1 ⟨rfl, hb⟩; replace R := R.on hb; obtain ⟨y0, y1⟩ := R.cells; clear hb) | (go_at_call 30; refine (isName_any ks ts _ _ _ _ _ _ HL.out hm R.tv).mono ?_; rintro e w1 ⟨rfl, hb⟩; replace R := R.on hb; obtain ⟨y0, y1⟩ := R.cells; clear hb; first | rw [HNM.out]))
            go_ret2
            exact ⟨by rw [HE.out]; rfl, R.bel⟩
          · have hlu1 : j1 + 1 < n := by have := name_lt hNM; have := HL.out; omega
            have HR7 : Hid (Rv = autF ks ts n i0 (n + 1 - (j1 + 2)) (j1 + 2) 7 false) := by show Rv = _; rw [HR6.out, a6f hNM]
            have HNM1 : Hid (nameB ks ((j1 : Int) + 1) = true) := by show nameB ks ((j1 : Int) + 1) = true; rw [show ((j1 : Int) + 1) = ((j1 + 1 : Nat) : Int) by omega]; exact hNM
            clear HR6 hNM
            rw [show n + 1 - (j1 + 2) = (n + 1 - (j1 + 2 + 1)) + 1 by omega] at HR7
            have HRf : Hid (kwB ks ts ((j1 + 2 : Nat) : Int) ⟨#[67, 89, 67, 76, 69]⟩ = false → Rv = (((j1 + 2 : Nat) : Int), true)) := fun h => by rw [HR7.out, a7n h]
            have HRt : Hid (kwB ks ts ((j1 + 2 : Nat) : Int) ⟨#[67, 89, 67, 76, 69]⟩ = true → Rv = autF ks ts n i0 (n + 1 - (j1 + 2 + 1)) (j1 + 2 + 1) 4 true) := fun h => by rw [HR7.out, a7y h]
            clear HR7
            cases hCY : kwB ks ts ((j1 + 2 : Nat) : Int) ⟨#[67, 89, 67, 76, 69]⟩
            · have HE : Hid (Rv = (((j1 + 2 : Nat) : Int), true)) := HRf.out hCY
              have fCY : ((wordBA ks ts ((j1 : Int) + 2)).toList == [67, 89, 67, 76, 69]) = false := by rw [wd _ _ _ _ (by decide), show ((j1 : Int) + 2) = ((j1 + 2 : Nat) : Int) by omega]; exact hCY
              clear HRf HRt hCY
              go_wp2_with (first | (go_at_call 28; refine (word_any ks ts _ _ _ _ _ _ HL.out hm HSZ.out R.tv).mono ?_; rintro e w1 ⟨rfl, hb⟩; replace R := R.on hb; obtain ⟨y0, y1⟩ := R.cells; clear hb) | (go_at_call 30; refine (isName_any ks ts _ _ _ _ _ _ HL.out hm R.tv).mono ?_; rintro e w1 ⟨rfl, hb⟩; replace R := R.on hb; obtain ⟨y0, y1⟩ := R.cells; clear hb; first | rw [HNM1.out]))
              go_ret2
              exact ⟨by rw [HE.out]; go_num, R.bel⟩
            · have hltp : j1 + 2 < n := by have := kw_lt hCY; have := HL.out; omega
              have HRn : Hid (Rv = autF ks ts n i0 (n + 1 - (j1 + 2 + 1)) (j1 + 2 + 1) 4 true) := HRt.out hCY
              have fCY : ((wordBA ks ts ((j1 : Int) + 2)).toList == [67, 89, 67, 76, 69]) = true := by rw [wd _ _ _ _ (by decide), show ((j1 : Int) + 2) = ((j1 + 2 : Nat) : Int) by omega]; exact hCY
              clear HRf HRt hCY
              go_wp2_with (first | (go_at_call 28; refine (word_any ks ts _ _ _ _ _ _ HL.out hm HSZ.out R.tv).mono ?_; rintro e w1 ⟨rfl, hb⟩; replace R := R.on hb; obtain ⟨y0, y1⟩ := R.cells; clear hb) | (go_at_call 30; refine (isName_any ks ts _ _ _ _ _ _ HL.out hm R.tv).mono ?_; rintro e w1 ⟨rfl, hb⟩; replace R := R.on hb; obtain ⟨y0, y1⟩ := R.cells; clear hb; first | rw [HNM1.out]))
              refine (names_any ks ts cs _ _ _ _ _ (j1 + 2 + 1) _ (by omega) (by omega) HL.out hm R.tv R.sv).mono ?_
              rintro e w1 ⟨j2, ok, rfl, hb, NI⟩
              replace R := R.on hb
              obtain ⟨y0, y1⟩ := R.cells
              clear hb
              have hj2 := NI.le
              cases ok
              · have HE : Hid (Rv = ((j2 : Int), false)) := by show Rv = _; rw [HRn.out, NI.no rfl]
                clear HRn NI
                go_wp2_with (go_at_call 28; refine (word_any ks ts _ _ _ _ _ _ HL.out hm HSZ.out R.tv).mono ?_; rintro e w1 ⟨rfl, hb⟩; replace R := R.on hb; obtain ⟨y0, y1⟩ := R.cells; clear hb)
                go_ret2
                exact ⟨by rw [HE.out]; rfl, R.bel⟩
              · obtain ⟨hcm, hau⟩ := NI.yes rfl
                have HR5 : Hid (Rv = autF ks ts n i0 ((n + 1 - (j2 + 1)) + 1) j2 5 true) := by show Rv = _; rw [HRn.out, hau i0 true, show n + 1 - j2 = (n + 1 - (j2 + 1)) + 1 by omega]
                clear HRn NI hau
                cases hSET : kwB ks ts ((j2 : Nat) : Int) ⟨#[83, 69, 84]⟩
                · have HE : Hid (Rv = ((j2 : Int), false)) := by show Rv = _; rw [HR5.out, a5n hcm hSET]
                  have fSET : ((wordBA ks ts (j2 : Int)).toList == [83, 69, 84]) = false := by rw [wd _ _ _ _ (by decide), show (j2 : Int) = ((j2 : Nat) : Int) by omega]; exact hSET
                  clear HR5 hcm hSET
                  go_wp2_with (go_at_call 28; refine (word_any ks ts _ _ _ _ _ _ HL.out hm HSZ.out R.tv).mono ?_; rintro e w1 ⟨rfl, hb⟩; replace R := R.on hb; obtain ⟨y0, y1⟩ := R.cells; clear hb)
                  go_ret2
                  exact ⟨by rw [HE.out]; rfl, R.bel⟩
                · have hlt2 : j2 < n := by have := kw_lt hSET; have := HL.out; omega
                  have HR6 : Hid (Rv = autF ks ts n i0 ((n + 1 - (j2 + 2)) + 1) (j2 + 1) 6 true) := by show Rv = _; rw [HR5.out, a5s hcm hSET, show n + 1 - (j2 + 1) = (n + 1 - (j2 + 2)) + 1 by omega]
                  have fSET2 : ((wordBA ks ts (j2 : Int)).toList == [83, 69, 84]) = true := by rw [wd _ _ _ _ (by decide), show (j2 : Int) = ((j2 : Nat) : Int) by omega]; exact hSET
                  clear HR5 hcm hSET
                  cases hNM : nameB ks ((j2 + 1 : Nat) : Int)
                  · have HE : Hid (Rv = ((j2 : Int), false)) := by show Rv = _; rw [HR6.out, a6n hNM, show (((j2 + 1 : Nat) : Int)) - 1 = (j2 : Int) by omega]
                    have HNM : Hid (nameB ks ((j2 : Int) + 1) = false) := by show nameB ks ((j2 : Int) + 1) = false; rw [show ((j2 : Int) + 1) = ((j2 + 1 : Nat) : Int) by omega]; exact hNM
                    clear HR6 hNM
                    go_wp2_with (first | (go_at_call 28; refine (word_any ks ts _ _ _ _ _ _ HL.out hm HSZ.out R.tv).mono ?_; rintro e w1 ⟨rfl, hb⟩; replace R := R.on hb; obtain ⟨y0, y1⟩ := R.cells; clear hb) | (go_at_call 30; refine (isName_any ks ts _ _ _ _ _ _ HL.out hm R.tv).mono ?_; rintro e w1 ⟨rfl, hb⟩; replace R := R.on hb; obtain ⟨y0, y1⟩ := R.cells; clear hb; first | rw [HNM.out]))
                    go_ret2
                    exact ⟨by rw [HE.out]; rfl, R.bel⟩
                  · have hlu2 : j2 + 1 < n := by have := name_lt hNM; have := HL.out; omega
                    have HR7 : Hid (Rv = autF ks ts n i0 (n + 1 - (j2 + 2)) (j2 + 2) 8 true) := by show Rv = _; rw [HR6.out, a6t hNM]
                    have HNM2 : Hid (nameB ks ((j2 : Int) + 1) = true) := by show nameB ks ((j2 : Int) + 1) = true; rw [show ((j2 : Int) + 1) = ((j2 + 1 : Nat) : Int) by omega]; exact hNM
                    clear HR6 hNM
                    have hf8 : n + 1 - (j2 + 2) = (n + 1 - (j2 + 3)) + 1 := by omega
                    rw [hf8] at HR7
                    cases hTO : kwB ks ts ((j2 + 2 : Nat) : Int) ⟨#[84, 79]⟩
                    · have fTO : ((wordBA ks ts ((j2 : Int) + 2)).toList == [84, 79]) = false := by rw [wd _ _ _ _ (by decide), show ((j2 : Int) + 2) = ((j2 + 2 : Nat) : Int) by omega]; exact hTO
                      cases hUS : kwB ks ts ((j2 + 2 : Nat) : Int) ⟨#[85, 83, 73, 78, 71]⟩
                      · have HE : Hid (Rv = (((j2 + 2 : Nat) : Int), false)) := by show Rv = _; rw [HR7.out, a8n hTO hUS]
                        have fUS : ((wordBA ks ts ((j2 : Int) + 2)).toList == [85, 83, 73, 78, 71]) = false := by rw [wd _ _ _ _ (by decide), show ((j2 : Int) + 2) = ((j2 + 2 : Nat) : Int) by omega]; exact hUS
                        clear HR7 hTO hUS hf8
                        go_wp2_with (first | (go_at_call 28; refine (word_any ks ts _ _ _ _ _ _ HL.out hm HSZ.out R.tv).mono ?_; rintro e w1 ⟨rfl, hb⟩; replace R := R.on hb; obtain ⟨y0, y1⟩ := R.cells; clear hb) | (go_at_call 30; refine (isName_any ks ts _ _ _ _ _ _ HL.out hm R.tv).mono ?_; rintro e w1 ⟨rfl, hb⟩; replace R := R.on hb; obtain ⟨y0, y1⟩ := R.cells; clear hb; first | rw [HNM2.out]))
                        go_ret2
                        exact ⟨by rw [HE.out]; go_num, R.bel⟩
                      · have hltq : j2 + 2 < n := by have := kw_lt hUS; have := HL.out; omega
                        have HR10 : Hid (Rv = autF ks ts n i0 ((n + 1 - (j2 + 4)) + 1) (j2 + 3) 10 true) := by show Rv = _; rw [HR7.out, a8u hTO hUS, show n + 1 - (j2 + 3) = (n + 1 - (j2 + 4)) + 1 by omega]
                        have fUS : ((wordBA ks ts ((j2 : Int) + 2)).toList == [85, 83, 73, 78, 71]) = true := by rw [wd _ _ _ _ (by decide), show ((j2 : Int) + 2) = ((j2 + 2 : Nat) : Int) by omega]; exact hUS
                        clear HR7 hTO hUS hf8
                        cases hN3 : nameB ks ((j2 + 3 : Nat) : Int)
                        · have HE : Hid (Rv = (((j2 + 2 : Nat) : Int), false)) := by show Rv = _; rw [HR10.out, a10n hN3, show (((j2 + 3 : Nat) : Int)) - 1 = ((j2 + 2 : Nat) : Int) by omega]
                          have HN3 : Hid (nameB ks ((j2 : Int) + 2 + 1) = false) := by show nameB ks ((j2 : Int) + 2 + 1) = false; rw [show ((j2 : Int) + 2 + 1) = ((j2 + 3 : Nat) : Int) by omega]; exact hN3
                          clear HR10 hN3
                          go_wp2_with (first | (go_at_call 28; refine (word_any ks ts _ _ _ _ _ _ HL.out hm HSZ.out R.tv).mono ?_; rintro e w1 ⟨rfl, hb⟩; replace R := R.on hb; obtain ⟨y0, y1⟩ := R.cells; clear hb) | (go_at_call 30; refine (isName_any ks ts _ _ _ _ _ _ HL.out hm R.tv).mono ?_; rintro e w1 ⟨rfl, hb⟩; replace R := R.on hb; obtain ⟨y0, y1⟩ := R.cells; clear hb; first | rw [HNM2.out] | rw [HN3.out]))
                          go_ret2
                          exact ⟨by rw [HE.out]; go_num, R.bel⟩
                        · have HE : Hid (Rv = (((j2 + 4 : Nat) : Int), true)) := by show Rv = _; rw [HR10.out, a10y hN3, show (((j2 + 3 : Nat) : Int)) + 1 = ((j2 + 4 : Nat) : Int) by omega]
                          have HN3 : Hid (nameB ks ((j2 : Int) + 2 + 1) = true) := by show nameB ks ((j2 : Int) + 2 + 1) = true; rw [show ((j2 : Int) + 2 + 1) = ((j2 + 3 : Nat) : Int) by omega]; exact hN3
                          clear HR10 hN3
                          go_wp2_with (first | (go_at_call 28; refine (word_any ks ts _ _ _ _ _ _ HL.out hm HSZ.out R.tv).mono ?_; rintro e w1 ⟨rfl, hb⟩; replace R := R.on hb; obtain ⟨y0, y1⟩ := R.cells; clear hb) | (go_at_call 30; refine (isName_any ks ts _ _ _ _ _ _ HL.out hm R.tv).mono ?_; rintro e w1 ⟨rfl, hb⟩; replace R := R.on hb; obtain ⟨y0, y1⟩ := R.cells; clear hb; first | rw [HNM2.out] | rw [HN3.out]))
                          go_ret2
                          exact ⟨by rw [HE.out]; go_num, R.bel⟩
                    · have hltq : j2 + 2 < n := by have := kw_lt hTO; have := HL.out; omega
                      obtain ⟨hxu, hxo⟩ := to_excl hTO
                      have HR9 : Hid (Rv = autF ks ts n i0 (n + 1 - (j2 + 2)) (j2 + 2) 9 true) := by show Rv = _; rw [HR7.out, a8t hTO, hf8, a9g hxu (by omega) hxo]
                      have fTO : ((wordBA ks ts ((j2 : Int) + 2)).toList == [84, 79]) = true := by rw [wd _ _ _ _ (by decide), show ((j2 : Int) + 2) = ((j2 + 2 : Nat) : Int) by omega]; exact hTO
                      clear HR7 hTO hf8 hxu hxo
                      go_wp2_with (first | (go_at_call 28; refine (word_any ks ts _ _ _ _ _ _ HL.out hm HSZ.out R.tv).mono ?_; rintro e w1 ⟨rfl, hb⟩; replace R := R.on hb; obtain ⟨y0, y1⟩ := R.cells; clear hb) | (go_at_call 30; refine (isName_any ks ts _ _ _ _ _ _ HL.out hm R.tv).mono ?_; rintro e w1 ⟨rfl, hb⟩; replace R := R.on hb; obtain ⟨y0, y1⟩ := R.cells; clear hb; first | rw [HNM2.out]))
                      go_loopw [1] (fun ii wr => ∃ k : Nat, j2 + 2 ≤ k ∧ k ≤ n ∧ ii = .int .i64 k ∧ Rd ks ts cs a3 a4 n nc w wr ∧ Hid (Rv = autF ks ts n i0 (n + 1 - k) k 9 true)) (fun ii _ => n - (intOf ii).toNat)
                      case atStart => exact ⟨j2 + 2, by omega, by omega, by go_num, R, HR9⟩
                      case round =>
                        clear R HR9 y0 y1
                        obtain ⟨k, hqk, hkn, rfl, R, HR9⟩ := hrel
                        obtain ⟨y0, y1⟩ := R.cells
                        have hgw := R.hi
                        rw [show n + 1 - k = (n + 1 - (k + 1)) + 1 by omega] at HR9
                        cases hUS : kwB ks ts ((k : Nat) : Int) ⟨#[85, 83, 73, 78, 71]⟩
                        · have fUS : ((wordBA ks ts (k : Int)).toList == [85, 83, 73, 78, 71]) = false := by rw [wd _ _ _ _ (by decide), show (k : Int) = ((k : Nat) : Int) by omega]; exact hUS
                          by_cases hge : n ≤ k
                          · have HE : Hid (Rv = ((k : Int), false)) := by show Rv = _; rw [HR9.out, a9e hUS hge]
                            have hgeb : decide (n ≤ k) = true := by simpa using hge
                            clear HR9 hUS
                            go_wp2_with (go_at_call 28; refine (word_any ks ts _ _ _ _ _ _ HL.out hm HSZ.out R.tv).mono ?_; rintro e w1 ⟨rfl, hb⟩; replace R := R.on hb; obtain ⟨y0, y1⟩ := R.cells; clear hb)
                            go_ret2
                            exact ⟨by rw [HE.out]; rfl, R.bel⟩
                          · have hgeb : decide (n ≤ k) = false := by simpa using hge
                            cases hOP : markB ks ts (k : Int) ⟨#[40]⟩
                            · have HOP : Hid (markB ks ts (k : Int) ⟨#[40]⟩ = false) := hOP
                              have HN : Hid (Rv = autF ks ts n i0 (n + 1 - (k + 1)) (k + 1) 9 true) := by show Rv = _; rw [HR9.out, a9g hUS hge hOP]
                              clear HR9 hUS hOP
                              go_wp2_with (first | (go_at_call 28; refine (word_any ks ts _ _ _ _ _ _ HL.out hm HSZ.out R.tv).mono ?_; rintro e w1 ⟨rfl, hb⟩; replace R := R.on hb; obtain ⟨y0, y1⟩ := R.cells; clear hb) | (go_at_call 27; refine (punct_any ks ts _ _ _ _ _ _ _ HL.out hm R.tv).mono ?_; rintro e w1 ⟨rfl, hb⟩; replace R := R.on hb; obtain ⟨y0, y1⟩ := R.cells; clear hb; first | rw [HOP.out]))
                              go_roundw
                              case rel => exact ⟨k + 1, by omega, by omega, by go_num, R, HN⟩
                              case measure => simp [intOf]; omega
                            · have HOP : Hid (markB ks ts (k : Int) ⟨#[40]⟩ = true) := hOP
                              have HE : Hid (Rv = ((k : Int), false)) := by show Rv = _; rw [HR9.out, a9o hUS hOP]
                              clear HR9 hUS hOP
                              go_wp2_with (first | (go_at_call 28; refine (word_any ks ts _ _ _ _ _ _ HL.out hm HSZ.out R.tv).mono ?_; rintro e w1 ⟨rfl, hb⟩; replace R := R.on hb; obtain ⟨y0, y1⟩ := R.cells; clear hb) | (go_at_call 27; refine (punct_any ks ts _ _ _ _ _ _ _ HL.out hm R.tv).mono ?_; rintro e w1 ⟨rfl, hb⟩; replace R := R.on hb; obtain ⟨y0, y1⟩ := R.cells; clear hb; first | rw [HOP.out]))
                              go_ret2
                              exact ⟨by rw [HE.out]; rfl, R.bel⟩
                        · have hltk : k < n := by have := kw_lt hUS; have := HL.out; omega
                          have HR10 : Hid (Rv = autF ks ts n i0 ((n + 1 - (k + 2)) + 1) (k + 1) 10 true) := by show Rv = _; rw [HR9.out, a9u hUS, show n + 1 - (k + 1) = (n + 1 - (k + 2)) + 1 by omega]
                          have fUS : ((wordBA ks ts (k : Int)).toList == [85, 83, 73, 78, 71]) = true := by rw [wd _ _ _ _ (by decide), show (k : Int) = ((k : Nat) : Int) by omega]; exact hUS
                          clear HR9 hUS
                          cases hN3 : nameB ks ((k + 1 : Nat) : Int)
                          · have HE : Hid (Rv = ((k : Int), false)) := by show Rv = _; rw [HR10.out, a10n hN3, show (((k + 1 : Nat) : Int)) - 1 = (k : Int) by omega]
                            have HN3 : Hid (nameB ks ((k : Int) + 1) = false) := by show nameB ks ((k : Int) + 1) = false; rw [show ((k : Int) + 1) = ((k + 1 : Nat) : Int) by omega]; exact hN3
                            clear HR10 hN3
                            go_wp2_with (first | (go_at_call 28; refine (word_any ks ts _ _ _ _ _ _ HL.out hm HSZ.out R.tv).mono ?_; rintro e w1 ⟨rfl, hb⟩; replace R := R.on hb; obtain ⟨y0, y1⟩ := R.cells; clear hb) | (go_at_call 30; refine (isName_any ks ts _ _ _ _ _ _ HL.out hm R.tv).mono ?_; rintro e w1 ⟨rfl, hb⟩; replace R := R.on hb; obtain ⟨y0, y1⟩ := R.cells; clear hb; first | rw [HN3.out]))
                            go_ret2
                            exact ⟨by rw [HE.out]; rfl, R.bel⟩
                          · have HE : Hid (Rv = (((k + 2 : Nat) : Int), true)) := by show Rv = _; rw [HR10.out, a10y hN3, show (((k + 1 : Nat) : Int)) + 1 = ((k + 2 : Nat) : Int) by omega]
                            have HN3 : Hid (nameB ks ((k : Int) + 1) = true) := by show nameB ks ((k : Int) + 1) = true; rw [show ((k : Int) + 1) = ((k + 1 : Nat) : Int) by omega]; exact hN3
                            clear HR10 hN3
                            go_wp2_with (first | (go_at_call 28; refine (word_any ks ts _ _ _ _ _ _ HL.out hm HSZ.out R.tv).mono ?_; rintro e w1 ⟨rfl, hb⟩; replace R := R.on hb; obtain ⟨y0, y1⟩ := R.cells; clear hb) | (go_at_call 30; refine (isName_any ks ts _ _ _ _ _ _ HL.out hm R.tv).mono ?_; rintro e w1 ⟨rfl, hb⟩; replace R := R.on hb; obtain ⟨y0, y1⟩ := R.cells; clear hb; first | rw [HN3.out]))
                            go_ret2
                            exact ⟨by rw [HE.out]; go_num, R.bel⟩

end Go.Proofs.Qxb6605218a
