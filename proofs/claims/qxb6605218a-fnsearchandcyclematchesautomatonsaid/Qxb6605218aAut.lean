/-
  The automaton of SEARCH and CYCLE clauses as a plain function, step by step. No Go in sight.
-/
import Derived.Test.Qxb6605218aWords
namespace Go.Proofs.Qxb6605218a
open Go.RowKit
set_option linter.unusedVariables false

section
variable (ks : List Int) (ts : List ByteArray) (n i0 : Nat)

/-- the automaton that reads SEARCH and CYCLE clauses: f steps from place p on, in state st; c: in a CYCLE clause -/
def autF : Nat → Nat → Int → Bool → Int × Bool
  | 0, _, _, _ => ((n : Int), false)
  | f + 1, p, st, c =>
    if st = 0 then (if kwB ks ts (p : Int) ⟨#[83, 69, 65, 82, 67, 72]⟩ then autF f (p + 1) 1 c else if kwB ks ts (p : Int) ⟨#[67, 89, 67, 76, 69]⟩ then autF f (p + 1) 4 true else ((i0 : Int), true))
    else if st = 1 then (if kwB ks ts (p : Int) ⟨#[66, 82, 69, 65, 68, 84, 72]⟩ || kwB ks ts (p : Int) ⟨#[68, 69, 80, 84, 72]⟩ then autF f (p + 1) 2 c else ((i0 : Int), false))
    else if st = 2 then (if kwB ks ts (p : Int) ⟨#[70, 73, 82, 83, 84]⟩ then autF f (p + 1) 3 c else ((i0 : Int), false))
    else if st = 3 then (if kwB ks ts (p : Int) ⟨#[66, 89]⟩ then autF f (p + 1) 4 c else ((i0 : Int), false))
    else if st = 4 then (if nameB ks (p : Int) then autF f (p + 1) 5 c else ((p : Int), false))
    else if st = 5 then (if markB ks ts (p : Int) ⟨#[44]⟩ then autF f (p + 1) 4 c else if kwB ks ts (p : Int) ⟨#[83, 69, 84]⟩ then autF f (p + 1) 6 c else ((p : Int), false))
    else if st = 6 then (if nameB ks (p : Int) then (if c then autF f (p + 1) 8 c else autF f (p + 1) 7 c) else ((p : Int) - 1, false))
    else if st = 7 then (if kwB ks ts (p : Int) ⟨#[67, 89, 67, 76, 69]⟩ then autF f (p + 1) 4 true else ((p : Int), true))
    else if st = 8 then (if kwB ks ts (p : Int) ⟨#[84, 79]⟩ then autF f (p + 1) 9 c else if kwB ks ts (p : Int) ⟨#[85, 83, 73, 78, 71]⟩ then autF f (p + 1) 10 c else ((p : Int), false))
    else if st = 9 then (if kwB ks ts (p : Int) ⟨#[85, 83, 73, 78, 71]⟩ then autF f (p + 1) 10 c else if decide (n ≤ p) || markB ks ts (p : Int) ⟨#[40]⟩ then ((p : Int), false) else autF f (p + 1) 9 c)
    else (if nameB ks (p : Int) then ((p : Int) + 1, true) else ((p : Int) - 1, false))

variable {ks ts n i0} {f p : Nat} {c : Bool}
theorem a0s (h0 : kwB ks ts (p : Int) ⟨#[83, 69, 65, 82, 67, 72]⟩ = true) : autF ks ts n i0 (f + 1) p 0 c = autF ks ts n i0 f (p + 1) 1 c := by rw [autF.eq_def]; simp [h0]
theorem a0c (h0 : kwB ks ts (p : Int) ⟨#[83, 69, 65, 82, 67, 72]⟩ = false) (h1 : kwB ks ts (p : Int) ⟨#[67, 89, 67, 76, 69]⟩ = true) : autF ks ts n i0 (f + 1) p 0 c = autF ks ts n i0 f (p + 1) 4 true := by rw [autF.eq_def]; simp [h0, h1]
theorem a0n (h0 : kwB ks ts (p : Int) ⟨#[83, 69, 65, 82, 67, 72]⟩ = false) (h1 : kwB ks ts (p : Int) ⟨#[67, 89, 67, 76, 69]⟩ = false) : autF ks ts n i0 (f + 1) p 0 c = ((i0 : Int), true) := by rw [autF.eq_def]; simp [h0, h1]
theorem a1b (h0 : kwB ks ts (p : Int) ⟨#[66, 82, 69, 65, 68, 84, 72]⟩ = true) : autF ks ts n i0 (f + 1) p 1 c = autF ks ts n i0 f (p + 1) 2 c := by rw [autF.eq_def]; simp [h0]
theorem a1d (h0 : kwB ks ts (p : Int) ⟨#[66, 82, 69, 65, 68, 84, 72]⟩ = false) (h1 : kwB ks ts (p : Int) ⟨#[68, 69, 80, 84, 72]⟩ = true) : autF ks ts n i0 (f + 1) p 1 c = autF ks ts n i0 f (p + 1) 2 c := by rw [autF.eq_def]; simp [h0, h1]
theorem a1n (h0 : kwB ks ts (p : Int) ⟨#[66, 82, 69, 65, 68, 84, 72]⟩ = false) (h1 : kwB ks ts (p : Int) ⟨#[68, 69, 80, 84, 72]⟩ = false) : autF ks ts n i0 (f + 1) p 1 c = ((i0 : Int), false) := by rw [autF.eq_def]; simp [h0, h1]
theorem a2y (h0 : kwB ks ts (p : Int) ⟨#[70, 73, 82, 83, 84]⟩ = true) : autF ks ts n i0 (f + 1) p 2 c = autF ks ts n i0 f (p + 1) 3 c := by rw [autF.eq_def]; simp [h0]
theorem a2n (h0 : kwB ks ts (p : Int) ⟨#[70, 73, 82, 83, 84]⟩ = false) : autF ks ts n i0 (f + 1) p 2 c = ((i0 : Int), false) := by rw [autF.eq_def]; simp [h0]
theorem a3y (h0 : kwB ks ts (p : Int) ⟨#[66, 89]⟩ = true) : autF ks ts n i0 (f + 1) p 3 c = autF ks ts n i0 f (p + 1) 4 c := by rw [autF.eq_def]; simp [h0]
theorem a3n (h0 : kwB ks ts (p : Int) ⟨#[66, 89]⟩ = false) : autF ks ts n i0 (f + 1) p 3 c = ((i0 : Int), false) := by rw [autF.eq_def]; simp [h0]
theorem a4y (h0 : nameB ks (p : Int) = true) : autF ks ts n i0 (f + 1) p 4 c = autF ks ts n i0 f (p + 1) 5 c := by rw [autF.eq_def]; simp [h0]
theorem a4n (h0 : nameB ks (p : Int) = false) : autF ks ts n i0 (f + 1) p 4 c = ((p : Int), false) := by rw [autF.eq_def]; simp [h0]
theorem a5c (h0 : markB ks ts (p : Int) ⟨#[44]⟩ = true) : autF ks ts n i0 (f + 1) p 5 c = autF ks ts n i0 f (p + 1) 4 c := by rw [autF.eq_def]; simp [h0]
theorem a5s (h0 : markB ks ts (p : Int) ⟨#[44]⟩ = false) (h1 : kwB ks ts (p : Int) ⟨#[83, 69, 84]⟩ = true) : autF ks ts n i0 (f + 1) p 5 c = autF ks ts n i0 f (p + 1) 6 c := by rw [autF.eq_def]; simp [h0, h1]
theorem a5n (h0 : markB ks ts (p : Int) ⟨#[44]⟩ = false) (h1 : kwB ks ts (p : Int) ⟨#[83, 69, 84]⟩ = false) : autF ks ts n i0 (f + 1) p 5 c = ((p : Int), false) := by rw [autF.eq_def]; simp [h0, h1]
theorem a6t (h0 : nameB ks (p : Int) = true) : autF ks ts n i0 (f + 1) p 6 true = autF ks ts n i0 f (p + 1) 8 true := by rw [autF.eq_def]; simp [h0]
theorem a6f (h0 : nameB ks (p : Int) = true) : autF ks ts n i0 (f + 1) p 6 false = autF ks ts n i0 f (p + 1) 7 false := by rw [autF.eq_def]; simp [h0]
theorem a6n (h0 : nameB ks (p : Int) = false) : autF ks ts n i0 (f + 1) p 6 c = ((p : Int) - 1, false) := by rw [autF.eq_def]; simp [h0]
theorem a7y (h0 : kwB ks ts (p : Int) ⟨#[67, 89, 67, 76, 69]⟩ = true) : autF ks ts n i0 (f + 1) p 7 c = autF ks ts n i0 f (p + 1) 4 true := by rw [autF.eq_def]; simp [h0]
theorem a7n (h0 : kwB ks ts (p : Int) ⟨#[67, 89, 67, 76, 69]⟩ = false) : autF ks ts n i0 (f + 1) p 7 c = ((p : Int), true) := by rw [autF.eq_def]; simp [h0]
theorem a8t (h0 : kwB ks ts (p : Int) ⟨#[84, 79]⟩ = true) : autF ks ts n i0 (f + 1) p 8 c = autF ks ts n i0 f (p + 1) 9 c := by rw [autF.eq_def]; simp [h0]
theorem a8u (h0 : kwB ks ts (p : Int) ⟨#[84, 79]⟩ = false) (h1 : kwB ks ts (p : Int) ⟨#[85, 83, 73, 78, 71]⟩ = true) : autF ks ts n i0 (f + 1) p 8 c = autF ks ts n i0 f (p + 1) 10 c := by rw [autF.eq_def]; simp [h0, h1]
theorem a8n (h0 : kwB ks ts (p : Int) ⟨#[84, 79]⟩ = false) (h1 : kwB ks ts (p : Int) ⟨#[85, 83, 73, 78, 71]⟩ = false) : autF ks ts n i0 (f + 1) p 8 c = ((p : Int), false) := by rw [autF.eq_def]; simp [h0, h1]
theorem a9u (h0 : kwB ks ts (p : Int) ⟨#[85, 83, 73, 78, 71]⟩ = true) : autF ks ts n i0 (f + 1) p 9 c = autF ks ts n i0 f (p + 1) 10 c := by rw [autF.eq_def]; simp [h0]
theorem a9e (h0 : kwB ks ts (p : Int) ⟨#[85, 83, 73, 78, 71]⟩ = false) (h1 : n ≤ p) : autF ks ts n i0 (f + 1) p 9 c = ((p : Int), false) := by rw [autF.eq_def]; simp [h0, h1]
theorem a9o (h0 : kwB ks ts (p : Int) ⟨#[85, 83, 73, 78, 71]⟩ = false) (h1 : markB ks ts (p : Int) ⟨#[40]⟩ = true) : autF ks ts n i0 (f + 1) p 9 c = ((p : Int), false) := by rw [autF.eq_def]; simp [h0, h1]
theorem a9g (h0 : kwB ks ts (p : Int) ⟨#[85, 83, 73, 78, 71]⟩ = false) (h1 : ¬ n ≤ p) (h2 : markB ks ts (p : Int) ⟨#[40]⟩ = false) : autF ks ts n i0 (f + 1) p 9 c = autF ks ts n i0 f (p + 1) 9 c := by rw [autF.eq_def]; simp [h0, h1, h2]
theorem a10y (h0 : nameB ks (p : Int) = true) : autF ks ts n i0 (f + 1) p 10 c = ((p : Int) + 1, true) := by rw [autF.eq_def]; simp [h0]
theorem a10n (h0 : nameB ks (p : Int) = false) : autF ks ts n i0 (f + 1) p 10 c = ((p : Int) - 1, false) := by rw [autF.eq_def]; simp [h0]
theorem a_end {st : Int} : autF ks ts n i0 0 p st c = ((n : Int), false) := by rw [autF.eq_def]
end

end Go.Proofs.Qxb6605218a
