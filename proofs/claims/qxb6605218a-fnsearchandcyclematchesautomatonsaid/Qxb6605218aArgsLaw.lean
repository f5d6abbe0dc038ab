/-
  THE PLAIN LAW of FnArgumentsCountsTopLevelCommas: what a fitting table says of the parentheses; the model's walk skips what lies between an opening parenthesis and the closing one that fits it. No Go in sight.
-/
import Derived.Test.Qxb6605218aFits
namespace Go.Proofs.Qxb6605218a
open Go.RowKit
set_option linter.unusedVariables false

section
variable (ks : List Int) (ts : List ByteArray)

/-- the first closing parenthesis from j on, f tokens, that closes a level below the d that are open -/
def nextC : Nat → Nat → Nat → Option Nat
  | 0, _, _ => none
  | f + 1, j, d =>
    if mkB ks ts j [40] then nextC f (j + 1) (d + 1)
    else if mkB ks ts j [41] then (match d with | 0 => some j | d' + 1 => nextC f (j + 1) d')
    else nextC f (j + 1) d

/-- the model's walk from j on, f tokens: the depth d, the brackets br, the count, is it empty so far -/
def modF : Nat → Nat → Nat → Int → Int → Bool → Int
  | 0, _, _, _, cnt, emp => if emp then 0 else cnt
  | f + 1, j, d, br, cnt, emp =>
    if mkB ks ts j [41] then (match d with | 0 => if emp then 0 else cnt | d' + 1 => modF f (j + 1) d' br cnt emp)
    else if mkB ks ts j [40] then modF f (j + 1) (d + 1) br cnt false
    else if 0 < d then modF f (j + 1) d br cnt false
    else if mkB ks ts j [91] then modF f (j + 1) d (br + 1) cnt false
    else if mkB ks ts j [93] then modF f (j + 1) d (br - 1) cnt false
    else if mkB ks ts j [44] && br == 0 then modF f (j + 1) d br (cnt + 1) false
    else modF f (j + 1) d br cnt false

variable {ks ts}

theorem not_both (j : Nat) (h : mkB ks ts j [40] = true) : mkB ks ts j [41] = false := by
  simp [mkB] at *
  intro _ h2
  rw [h.2] at h2
  simp at h2

variable {f j d c : Nat} {br cnt : Int} {emp : Bool}

theorem nextC_open (h : mkB ks ts j [40] = true) : nextC ks ts (f + 1) j d = nextC ks ts f (j + 1) (d + 1) := by rw [nextC.eq_def]; simp only; rw [if_pos h]
theorem nextC_zero (h : mkB ks ts j [40] = false) (h2 : mkB ks ts j [41] = true) : nextC ks ts (f + 1) j 0 = some j := by rw [nextC.eq_def]; simp only; rw [if_neg (by rw [h]; decide), if_pos h2]
theorem nextC_close (h : mkB ks ts j [40] = false) (h2 : mkB ks ts j [41] = true) : nextC ks ts (f + 1) j (d + 1) = nextC ks ts f (j + 1) d := by rw [nextC.eq_def]; simp only; rw [if_neg (by rw [h]; decide), if_pos h2]
theorem nextC_other (h : mkB ks ts j [40] = false) (h2 : mkB ks ts j [41] = false) : nextC ks ts (f + 1) j d = nextC ks ts f (j + 1) d := by rw [nextC.eq_def]; simp only; rw [if_neg (by rw [h]; decide), if_neg (by rw [h2]; decide)]

theorem modF_end : modF ks ts 0 j d br cnt emp = if emp then 0 else cnt := by rw [modF.eq_def]
theorem modF_zero (h2 : mkB ks ts j [41] = true) : modF ks ts (f + 1) j 0 br cnt emp = if emp then 0 else cnt := by rw [modF.eq_def]; simp only; rw [if_pos h2]
theorem modF_close (h2 : mkB ks ts j [41] = true) : modF ks ts (f + 1) j (d + 1) br cnt emp = modF ks ts f (j + 1) d br cnt emp := by rw [modF.eq_def]; simp only; rw [if_pos h2]
theorem modF_open (h : mkB ks ts j [40] = true) : modF ks ts (f + 1) j d br cnt emp = modF ks ts f (j + 1) (d + 1) br cnt false := by rw [modF.eq_def]; simp only; rw [if_neg (by rw [not_both j h]; decide), if_pos h]
theorem modF_deep (h : mkB ks ts j [40] = false) (h2 : mkB ks ts j [41] = false) : modF ks ts (f + 1) j (d + 1) br cnt emp = modF ks ts f (j + 1) (d + 1) br cnt false := by rw [modF.eq_def]; simp only; rw [if_neg (by rw [h2]; decide), if_neg (by rw [h]; decide), if_pos (by omega)]
theorem modF_lb (h : mkB ks ts j [40] = false) (h2 : mkB ks ts j [41] = false) (h3 : mkB ks ts j [91] = true) : modF ks ts (f + 1) j 0 br cnt emp = modF ks ts f (j + 1) 0 (br + 1) cnt false := by rw [modF.eq_def]; simp only; rw [if_neg (by rw [h2]; decide), if_neg (by rw [h]; decide), if_neg (by omega), if_pos h3]
theorem modF_rb (h : mkB ks ts j [40] = false) (h2 : mkB ks ts j [41] = false) (h3 : mkB ks ts j [91] = false) (h4 : mkB ks ts j [93] = true) : modF ks ts (f + 1) j 0 br cnt emp = modF ks ts f (j + 1) 0 (br - 1) cnt false := by rw [modF.eq_def]; simp only; rw [if_neg (by rw [h2]; decide), if_neg (by rw [h]; decide), if_neg (by omega), if_neg (by rw [h3]; decide), if_pos h4]
theorem modF_comma (h : mkB ks ts j [40] = false) (h2 : mkB ks ts j [41] = false) (h3 : mkB ks ts j [91] = false) (h4 : mkB ks ts j [93] = false) (h5 : (mkB ks ts j [44] && br == 0) = true) : modF ks ts (f + 1) j 0 br cnt emp = modF ks ts f (j + 1) 0 br (cnt + 1) false := by rw [modF.eq_def]; simp only; rw [if_neg (by rw [h2]; decide), if_neg (by rw [h]; decide), if_neg (by omega), if_neg (by rw [h3]; decide), if_neg (by rw [h4]; decide), if_pos h5]
theorem modF_plain (h : mkB ks ts j [40] = false) (h2 : mkB ks ts j [41] = false) (h3 : mkB ks ts j [91] = false) (h4 : mkB ks ts j [93] = false) (h5 : (mkB ks ts j [44] && br == 0) = false) : modF ks ts (f + 1) j 0 br cnt emp = modF ks ts f (j + 1) 0 br cnt false := by rw [modF.eq_def]; simp only; rw [if_neg (by rw [h2]; decide), if_neg (by rw [h]; decide), if_neg (by omega), if_neg (by rw [h3]; decide), if_neg (by rw [h4]; decide), if_neg (by rw [h5]; decide)]

/-- what nextC finds -/
theorem nextC_at : ∀ {f j d : Nat}, nextC ks ts f j d = some c → j ≤ c ∧ c < j + f ∧ mkB ks ts c [40] = false ∧ mkB ks ts c [41] = true
  | 0, j, d, h => by rw [nextC.eq_def] at h; cases h
  | f + 1, j, d, h => by
    cases h40 : mkB ks ts j [40]
    · cases h41 : mkB ks ts j [41]
      · rw [nextC_other h40 h41] at h
        obtain ⟨h1, h2, h3⟩ := nextC_at h
        exact ⟨by omega, by omega, h3⟩
      · cases d with
        | zero => rw [nextC_zero h40 h41] at h; cases h; exact ⟨Nat.le_refl _, by omega, h40, h41⟩
        | succ d =>
          rw [nextC_close h40 h41] at h
          obtain ⟨h1, h2, h3⟩ := nextC_at h
          exact ⟨by omega, by omega, h3⟩
    · rw [nextC_open h40] at h
      obtain ⟨h1, h2, h3⟩ := nextC_at h
      exact ⟨by omega, by omega, h3⟩

/-- behind the closing parenthesis that closes level e the walk stands d levels deep -/
theorem nextC_skip : ∀ {f j e d : Nat}, nextC ks ts f j e = some c → nextC ks ts f j (e + 1 + d) = nextC ks ts (j + f - (c + 1)) (c + 1) d
  | 0, j, e, d, h => by rw [nextC.eq_def] at h; cases h
  | f + 1, j, e, d, h => by
    cases h40 : mkB ks ts j [40]
    · cases h41 : mkB ks ts j [41]
      · rw [nextC_other h40 h41] at h ⊢
        rw [nextC_skip h, show j + 1 + f = j + (f + 1) by omega]
      · cases e with
        | zero =>
          rw [nextC_zero h40 h41] at h; cases h
          rw [show 0 + 1 + d = d + 1 by omega, nextC_close h40 h41, show c + (f + 1) - (c + 1) = f by omega]
        | succ e =>
          rw [nextC_close h40 h41] at h
          rw [show e + 1 + 1 + d = (e + 1 + d) + 1 by omega, nextC_close h40 h41, nextC_skip h, show j + 1 + f = j + (f + 1) by omega]
    · rw [nextC_open h40] at h ⊢
      rw [show e + 1 + d + 1 = (e + 1) + 1 + d by omega, nextC_skip h, show j + 1 + f = j + (f + 1) by omega]

theorem modF_skip : ∀ {f j e d : Nat}, nextC ks ts f j e = some c → modF ks ts f j (e + 1 + d) br cnt false = modF ks ts (j + f - (c + 1)) (c + 1) d br cnt false
  | 0, j, e, d, h => by rw [nextC.eq_def] at h; cases h
  | f + 1, j, e, d, h => by
    cases h40 : mkB ks ts j [40]
    · cases h41 : mkB ks ts j [41]
      · rw [nextC_other h40 h41] at h
        rw [show e + 1 + d = (e + d) + 1 by omega, modF_deep h40 h41, show (e + d) + 1 = e + 1 + d by omega, modF_skip h, show j + 1 + f = j + (f + 1) by omega]
      · cases e with
        | zero =>
          rw [nextC_zero h40 h41] at h; cases h
          rw [show 0 + 1 + d = d + 1 by omega, modF_close h41, show c + (f + 1) - (c + 1) = f by omega]
        | succ e =>
          rw [nextC_close h40 h41] at h
          rw [show e + 1 + 1 + d = (e + 1 + d) + 1 by omega, modF_close h41, modF_skip h, show j + 1 + f = j + (f + 1) by omega]
    · rw [nextC_open h40] at h
      rw [modF_open h40, show e + 1 + d + 1 = (e + 1) + 1 + d by omega, modF_skip h, show j + 1 + f = j + (f + 1) by omega]

/-- what the fitting table says -/
theorem fit_says (cs : List Int) (nc : Nat) : ∀ {f k : Nat} {st : List Nat}, fitF ks ts cs nc f k st = true →
    (∀ e o, st[e]? = some o → o < nc ∧ ∃ c : Nat, cs.getD o 0 = c ∧ nextC ks ts f k e = some c) ∧
    (∀ j, k ≤ j → j < k + f → mkB ks ts j [40] = true → j < nc ∧ ∃ c : Nat, cs.getD j 0 = c ∧ nextC ks ts (k + f - (j + 1)) (j + 1) 0 = some c)
  | 0, k, st, h => by
    rw [fitF_zero] at h
    have : st = [] := by simpa using h
    subst this
    exact ⟨by simp, fun j h1 h2 => by omega⟩
  | f + 1, k, st, h => by
    cases h40 : mkB ks ts k [40]
    · cases h41 : mkB ks ts k [41]
      · rw [fitF_other _ _ _ _ _ _ _ h40 h41] at h
        obtain ⟨ih1, ih2⟩ := fit_says cs nc h
        refine ⟨fun e o he => ?_, fun j h1 h2 h3 => ?_⟩
        · rw [nextC_other h40 h41]; exact ih1 e o he
        · by_cases e : j = k
          · subst e; rw [h40] at h3; cases h3
          · have := ih2 j (by omega) (by omega) h3
            rwa [show k + 1 + f = k + (f + 1) by omega] at this
      · cases st with
        | nil => rw [fitF_nil _ _ _ _ _ _ h40 h41] at h; cases h
        | cons o st =>
          by_cases hc : o < nc ∧ cs.getD o 0 = k
          · rw [fitF_ok _ _ _ _ _ _ _ _ h40 h41 hc] at h
            obtain ⟨ih1, ih2⟩ := fit_says cs nc h
            refine ⟨fun e o' he => ?_, fun j h1 h2 h3 => ?_⟩
            · cases e with
              | zero =>
                simp at he; subst he
                exact ⟨hc.1, k, hc.2, nextC_zero h40 h41⟩
              | succ e => rw [nextC_close h40 h41]; exact ih1 e o' (by simpa using he)
            · by_cases e : j = k
              · subst e; rw [h40] at h3; cases h3
              · have := ih2 j (by omega) (by omega) h3
                rwa [show k + 1 + f = k + (f + 1) by omega] at this
          · rw [fitF_bad _ _ _ _ _ _ _ _ h40 h41 hc] at h; cases h
    · rw [fitF_open _ _ _ _ _ _ _ h40] at h
      obtain ⟨ih1, ih2⟩ := fit_says cs nc h
      refine ⟨fun e o he => ?_, fun j h1 h2 h3 => ?_⟩
      · rw [nextC_open h40]; exact ih1 (e + 1) o (by simpa using he)
      · by_cases e : j = k
        · subst e
          have := ih1 0 j (by simp)
          rwa [show j + (f + 1) - (j + 1) = f by omega]
        · have := ih2 j (by omega) (by omega) h3
          rwa [show k + 1 + f = k + (f + 1) by omega] at this
end

end Go.Proofs.Qxb6605218a
