/-
  The words: zzNameAtB1 (24), zzKwAtB1 (23), reader.isName (30), reader.word (28).
-/
import Derived.Test.Qxb6605218aUpper
namespace Go.Proofs.Qxb6605218a
open Go.RowKit
set_option linter.unusedVariables false

/-- the token at p is this keyword -/
def kwB (ks : List Int) (ts : List ByteArray) (p : Int) (kw : ByteArray) : Bool := kindB ks p 0 && (upBA (ts.getD p.toNat ByteArray.empty)).toList == kw.toList
/-- .. is a name -/
def nameB (ks : List Int) (p : Int) : Bool := kindB ks p 0 || kindB ks p 1
/-- the word at p in upper case -/
def wordBA (ks : List Int) (ts : List ByteArray) (p : Int) : ByteArray := if kindB ks p 0 then upBA (ts.getD p.toNat ByteArray.empty) else ⟨#[]⟩

theorem word_eq (ks : List Int) (ts : List ByteArray) (p : Int) (kw : ByteArray) (h : kw.toList ≠ []) : ((wordBA ks ts p).toList == kw.toList) = kwB ks ts p kw := by
  unfold wordBA kwB
  cases kindB ks p 0
  · rw [if_neg (by decide), Bool.false_and]
    have : ByteArray.toList ⟨#[]⟩ = [] := by rw [ByteArray.toList_eq]
    rw [this]
    simp
    exact fun e => h e
  · rw [if_pos rfl, Bool.true_and]

set_option maxHeartbeats 400000 in
theorem nameAt_any (ks : List Int) (a : Option Addr) (n cap : Nat) (p : Int) (w : World) (hn : ks.length = n) (hm : n ≤ 1048576) (V : SV w a n (iv ks)) :
    Calls Try.prog 24 #[.slice a n cap, .int .i64 p] w fun e w' => e = .returned (.bool (nameB ks p)) ∧ w' = w := by
  have HV : Hid (SV w a n (iv ks)) := V
  have HL : Hid (ks.length = n) := hn
  unfold nameB
  cases hk : kindB ks p 0
  · have HK : Hid (kindB ks p 0 = false) := hk
    rw [Bool.false_or]
    clear hk V hn
    go_enter Try.func24, Try.ntmps24
    go_wp2_with (go_at_call 26; refine (kind_any ks _ _ _ _ _ _ HL.out hm HV.out).mono ?_; rintro e w ⟨rfl, rfl⟩; try rw [HK.out])
    go_ret
    exact ⟨rfl, rfl⟩
  · have HK : Hid (kindB ks p 0 = true) := hk
    rw [Bool.true_or]
    clear hk V hn
    go_enter Try.func24, Try.ntmps24
    go_wp2_with (go_at_call 26; refine (kind_any ks _ _ _ _ _ _ HL.out hm HV.out).mono ?_; rintro e w ⟨rfl, rfl⟩; rw [HK.out])
    go_ret
    exact ⟨rfl, rfl⟩

set_option maxHeartbeats 400000 in
theorem isName_any (ks : List Int) (ts : List ByteArray) (a : Option Addr) (n cap : Nat) (c : Value) (p : Int) (w : World) (hn : ks.length = n) (hm : n ≤ 1048576) (V : TV w a n ks ts) :
    Calls Try.prog 30 #[.agg #[.slice a n cap, c], .int .i64 p] w fun e w' => e = .returned (.bool (nameB ks p)) ∧ Below w.heap.size w w' := by
  by_cases h0 : 0 ≤ p
  · by_cases h1 : p < n
    · obtain ⟨g, rfl, hg, hc1, hc2⟩ := V.at p.toNat (by omega)
      have e : nameB ks p = (ks.getD p.toNat 0 == 0 || ks.getD p.toNat 0 == 1) := by simp [nameB, kindB, hn, h0, h1]
      rw [e]
      unfold iv at hc1
      generalize ks.getD p.toNat 0 = x at *
      clear V e hn hc2
      cases hx : x == 0
      · rw [Bool.false_or]
        go_enter Try.func30, Try.ntmps30
        go_wp2
        go_ret
        exact ⟨rfl, (Below.refl _ _).alloc (Nat.le_refl _) _⟩
      · rw [Bool.true_or]
        go_enter Try.func30, Try.ntmps30
        go_wp2
        go_ret
        exact ⟨rfl, (Below.refl _ _).alloc (Nat.le_refl _) _⟩
    · have e : nameB ks p = false := by simp [nameB, kindB, hn, h1]
      rw [e]
      clear V e hn
      go_enter Try.func30, Try.ntmps30
      go_wp2
      go_ret
      exact ⟨rfl, (Below.refl _ _).alloc (Nat.le_refl _) _⟩
  · have e : nameB ks p = false := by simp [nameB, kindB, h0]
    rw [e]
    clear V e hn
    go_enter Try.func30, Try.ntmps30
    go_wp2
    go_ret
    exact ⟨rfl, (Below.refl _ _).alloc (Nat.le_refl _) _⟩

set_option maxHeartbeats 400000 in
theorem word_any (ks : List Int) (ts : List ByteArray) (a : Option Addr) (n cap : Nat) (c : Value) (p : Int) (w : World) (hn : ks.length = n) (hm : n ≤ 1048576) (hsz : ∀ i, i < n → (ts.getD i ByteArray.empty).size ≤ 1048576) (V : TV w a n ks ts) :
    Calls Try.prog 28 #[.agg #[.slice a n cap, c], .int .i64 p] w fun e w' => e = .returned (.string (wordBA ks ts p)) ∧ Below w.heap.size w w' := by
  by_cases h0 : 0 ≤ p
  · by_cases h1 : p < n
    · obtain ⟨g, rfl, hg, hc1, hc2⟩ := V.at p.toNat (by omega)
      have hs := hsz p.toNat (by omega)
      have e : kindB ks p 0 = (ks.getD p.toNat 0 == 0) := by simp [kindB, hn, h0, h1]
      unfold wordBA
      rw [e]
      unfold iv at hc1
      unfold sv at hc2
      generalize ks.getD p.toNat 0 = x at *
      generalize ts.getD p.toNat ByteArray.empty = y at *
      clear V e hn hsz
      cases hx : x == 0
      · have hx' : (x != 0) = true := by simpa using hx
        rw [if_neg (by decide)]
        clear hx
        go_enter Try.func28, Try.ntmps28
        go_wp2
        go_ret
        exact ⟨rfl, (Below.refl _ _).alloc (Nat.le_refl _) _⟩
      · have hx' : (x != 0) = false := by simpa using hx
        rw [if_pos rfl]
        clear hx
        go_enter Try.func28, Try.ntmps28
        go_wp2_with (go_at_call 35; refine (upper_any _ _ hs).mono ?_; rintro e w' ⟨rfl, hb⟩)
        go_ret
        exact ⟨rfl, ((Below.refl _ _).alloc (Nat.le_refl _) _).trans (hb.mono (by simp))⟩
    · have e : wordBA ks ts p = ⟨#[]⟩ := by simp [wordBA, kindB, hn, h1]
      rw [e]
      clear V e hn hsz
      go_enter Try.func28, Try.ntmps28
      go_wp2
      go_ret
      exact ⟨rfl, (Below.refl _ _).alloc (Nat.le_refl _) _⟩
  · have e : wordBA ks ts p = ⟨#[]⟩ := by simp [wordBA, kindB, h0]
    rw [e]
    clear V e hn hsz
    go_enter Try.func28, Try.ntmps28
    go_wp2
    go_ret
    exact ⟨rfl, (Below.refl _ _).alloc (Nat.le_refl _) _⟩

/-- byte k of a text -/
def bt (x : ByteArray) (k : Nat) : UInt8 := x.data.toList.getD k 0
theorem bt_eq (x : ByteArray) (k : Nat) (h : k < x.size) : bt x k = x[k] := by
  have h' : k < x.data.size := h
  have e : x.data.toList.getD k 0 = x.data[k] := by
    rw [List.getD_eq_getElem?_getD, Array.getElem?_toList, Array.getElem?_eq_getElem h']; rfl
  exact e

/-- the keyword's bytes against the text's -/
theorem kw_all (x kw : ByteArray) (hl : x.size = kw.size) : ((upBA x).toList == kw.toList) = decide (∀ k, k < x.size → up (bt x k) = bt kw k) := by
  rw [ByteArray.toList_eq, ByteArray.toList_eq, Bool.eq_iff_iff]
  simp only [beq_iff_eq, decide_eq_true_eq, upBA]
  constructor
  · intro h k hk
    have hk1 : k < x.data.size := hk
    have hk2 : k < kw.data.size := by rw [hl] at hk; exact hk
    have h2 := congrArg (fun l : List UInt8 => l[k]?) h
    simp only [List.getElem?_map, Array.getElem?_toList, Array.getElem?_eq_getElem hk1, Array.getElem?_eq_getElem hk2, Option.map_some, Option.some.injEq] at h2
    rw [bt_eq x k hk, bt_eq kw k (by omega)]
    exact h2
  · intro h
    apply List.ext_getElem
    · simp; exact hl
    · intro k h1 h2
      simp at h1
      have h1' : k < x.data.size := h1
      have h2' : k < kw.data.size := by simpa using h2
      have h3 := h k h1
      rw [bt_eq x k h1, bt_eq kw k (by rw [← hl]; exact h1)] at h3
      simp only [List.getElem_map, Array.getElem_toList]
      exact h3

set_option maxHeartbeats 1000000 in
theorem kwAt_any (ks : List Int) (ts : List ByteArray) (a a2 : Option Addr) (n cap cap2 : Nat) (p : Int) (kw : ByteArray) (w : World) (hn : ks.length = n) (hm : n ≤ 1048576) (hsz : ∀ i, i < n → (ts.getD i ByteArray.empty).size ≤ 1048576) (hkw : kw.size ≤ 100) (V : SV w a n (iv ks)) (V2 : SV w a2 n (sv ts)) :
    Calls Try.prog 23 #[.slice a n cap, .slice a2 n cap2, .int .i64 p, .string kw] w fun e w' => e = .returned (.bool (kwB ks ts p kw)) ∧ w' = w := by
  have HV : Hid (SV w a n (iv ks)) := V
  have HL : Hid (ks.length = n) := hn
  cases hk : kindB ks p 0
  · have HK : Hid (kindB ks p 0 = false) := hk
    have e : kwB ks ts p kw = false := by simp [kwB, hk]
    rw [e]
    clear hk V V2 hn e hsz
    go_enter Try.func23, Try.ntmps23
    go_wp2_with (go_at_call 26; refine (kind_any ks _ _ _ _ _ _ HL.out hm HV.out).mono ?_; rintro e w ⟨rfl, rfl⟩; rw [HK.out])
    go_ret
    exact ⟨rfl, rfl⟩
  · have HK : Hid (kindB ks p 0 = true) := hk
    have e : kwB ks ts p kw = ((upBA (ts.getD p.toNat ByteArray.empty)).toList == kw.toList) := by simp [kwB, hk]
    rw [e]
    have hp : 0 ≤ p ∧ p < n := by
      have := hk
      simp [kindB, hn] at this
      omega
    obtain ⟨h0, h1⟩ := hp
    obtain ⟨b, off, rfl, hc⟩ := V2.at p.toNat (by omega)
    have hs := hsz p.toNat (by omega)
    unfold sv at hc
    generalize ts.getD p.toNat ByteArray.empty = x at *
    clear hk V V2 hn e hsz
    by_cases hlen : x.size = kw.size
    · have hlb : ((x.size : Int) != (kw.size : Int)) = false := by simp; omega
      have HLen : Hid (x.size = kw.size) := hlen
      rw [kw_all x kw hlen]
      obtain ⟨R, hR⟩ : ∃ R, R = decide (∀ k, k < x.size → up (bt x k) = bt kw k) := ⟨_, rfl⟩
      rw [← hR]
      have HRt : Hid ((∀ k, k < x.size → up (bt x k) = bt kw k) → R = true) := by
        show (∀ k, k < x.size → up (bt x k) = bt kw k) → R = true
        intro h; rw [hR]; simpa using h
      have HRf : Hid ((∃ k, k < x.size ∧ up (bt x k) ≠ bt kw k) → R = false) := by
        show (∃ k, k < x.size ∧ up (bt x k) ≠ bt kw k) → R = false
        rintro ⟨k, h, hne⟩; rw [hR]; simp; exact ⟨k, h, hne⟩
      have hkx : x.size ≤ 100 := by omega
      clear hR hlen
      go_enter Try.func23, Try.ntmps23
      go_wp2_with (go_at_call 26; refine (kind_any ks _ _ _ _ _ _ HL.out hm HV.out).mono ?_; rintro e w ⟨rfl, rfl⟩; rw [HK.out])
      go_loop [10, 11] (fun i _ => ∃ k : Nat, k ≤ x.size ∧ i = .int .i64 k ∧ Hid (∀ j, j < k → up (bt x j) = bt kw j)) (fun i _ => x.size - (intOf i).toNat)
      case atStart => exact ⟨0, by omega, rfl, by show ∀ j, j < 0 → _; omega⟩
      case round =>
        obtain ⟨k, hk, rfl, hall⟩ := hrel
        by_cases hlt : k < x.size
        · have hltk : k < kw.size := by have := HLen.out; omega
          have hx1 : x[k].toNat < 256 := UInt8.toNat_lt _
          have hx2 : kw[k].toNat < 256 := UInt8.toNat_lt _
          have E1 : Hid (bt x k = x[k]) := bt_eq x k hlt
          have E2 : Hid (bt kw k = kw[k]) := bt_eq kw k hltk
          by_cases c1 : 97 ≤ (x[k].toNat : Int)
          · by_cases c2 : (x[k].toNat : Int) ≤ 122
            · skip
              by_cases c3 : (x[k].toNat : Int) - 32 = kw[k].toNat
              · have c3b : ((x[k].toNat : Int) - 32 != (kw[k].toNat : Int)) = false := by simpa using c3
                have HN : Hid (∀ j, j < k + 1 → up (bt x j) = bt kw j) := by
                 show ∀ j, j < k + 1 → up (bt x j) = bt kw j
                 intro j h
                 by_cases e : j = k
                 · subst e
                   rw [E1.out, E2.out]
                   apply UInt8.toNat.inj
                   have h3 := up_lower x[j] (by omega); omega
                 · exact hall.out j (by omega)
                clear hall c3
                go_wp2
                go_round
                case rel => exact ⟨k + 1, by omega, by go_num, HN⟩
                case measure => simp [intOf]; omega
              · have c3b : ((x[k].toNat : Int) - 32 != (kw[k].toNat : Int)) = true := by simpa using c3
                have HE : Hid (R = false) := HRf.out ⟨k, hlt, by rw [E1.out, E2.out]; intro h; apply c3; have h3 := up_lower x[k] (by omega); rw [h] at h3; omega⟩
                clear c3 hall
                go_wp2
                go_ret
                exact ⟨by rw [HE.out]; rfl, rfl⟩
            · skip
              by_cases c3 : (x[k].toNat : Int) = kw[k].toNat
              · have c3b : ((x[k].toNat : Int) != (kw[k].toNat : Int)) = false := by simpa using c3
                have HN : Hid (∀ j, j < k + 1 → up (bt x j) = bt kw j) := by
                 show ∀ j, j < k + 1 → up (bt x j) = bt kw j
                 intro j h
                 by_cases e : j = k
                 · subst e
                   rw [E1.out, E2.out]
                   apply UInt8.toNat.inj
                   rw [up_other x[j] (by omega)]; omega
                 · exact hall.out j (by omega)
                clear hall c3
                go_wp2
                go_round
                case rel => exact ⟨k + 1, by omega, by go_num, HN⟩
                case measure => simp [intOf]; omega
              · have c3b : ((x[k].toNat : Int) != (kw[k].toNat : Int)) = true := by simpa using c3
                have HE : Hid (R = false) := HRf.out ⟨k, hlt, by rw [E1.out, E2.out]; intro h; apply c3; rw [up_other x[k] (by omega)] at h; rw [h]⟩
                clear c3 hall
                go_wp2
                go_ret
                exact ⟨by rw [HE.out]; rfl, rfl⟩
          · skip
            by_cases c3 : (x[k].toNat : Int) = kw[k].toNat
            · have c3b : ((x[k].toNat : Int) != (kw[k].toNat : Int)) = false := by simpa using c3
              have HN : Hid (∀ j, j < k + 1 → up (bt x j) = bt kw j) := by
               show ∀ j, j < k + 1 → up (bt x j) = bt kw j
               intro j h
               by_cases e : j = k
               · subst e
                 rw [E1.out, E2.out]
                 apply UInt8.toNat.inj
                 rw [up_other x[j] (by omega)]; omega
               · exact hall.out j (by omega)
              clear hall c3
              go_wp2
              go_round
              case rel => exact ⟨k + 1, by omega, by go_num, HN⟩
              case measure => simp [intOf]; omega
            · have c3b : ((x[k].toNat : Int) != (kw[k].toNat : Int)) = true := by simpa using c3
              have HE : Hid (R = false) := HRf.out ⟨k, hlt, by rw [E1.out, E2.out]; intro h; apply c3; rw [up_other x[k] (by omega)] at h; rw [h]⟩
              clear c3 hall
              go_wp2
              go_ret
              exact ⟨by rw [HE.out]; rfl, rfl⟩
        · have HT : Hid (R = true) := HRt.out (fun k h => hall.out k (by omega))
          clear hall
          go_wp2
          go_ret
          exact ⟨by rw [HT.out]; rfl, rfl⟩
    · have hlb : ((x.size : Int) != (kw.size : Int)) = true := by simp; omega
      have e : ((upBA x).toList == kw.toList) = false := by
        rw [ByteArray.toList_eq, ByteArray.toList_eq]
        simp only [beq_eq_false_iff_ne, ne_eq, upBA]
        intro h
        have := congrArg List.length h
        simp at this
        exact hlen this
      rw [e]
      clear e hlen
      go_enter Try.func23, Try.ntmps23
      go_wp2_with (go_at_call 26; refine (kind_any ks _ _ _ _ _ _ HL.out hm HV.out).mono ?_; rintro e w ⟨rfl, rfl⟩; rw [HK.out])
      go_ret
      exact ⟨rfl, rfl⟩

end Go.Proofs.Qxb6605218a
