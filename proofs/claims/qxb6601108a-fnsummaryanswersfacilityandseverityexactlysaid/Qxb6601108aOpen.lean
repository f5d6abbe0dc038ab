/-
  AN ARRAY OF INTEGERS THAT COMES IN BY VALUE, of whatever length, opened as a list of integers.
-/
import Derived.Test.Qxb6601108aMay
import Derived.WalkKit
import Derived.ProofKit
import Derived.OpenShut
namespace Go.Proofs.Qxb6601108a
open Go.ChangeShapes Go.WideShapes Go.ChangeAt Go.RowKit
set_option linter.unusedVariables false

/-- a list all of whose cells are integers of one kind is the cells of a list of integers -/
theorem ints_of {k : IntKind} : ∀ (l : List Value), (∀ i, i < l.length → ∃ n, l[i]? = some (.int k n) ∧ (Lit.int k n).wf = true) → ∃ S : List Int, l = S.map (Value.int k) ∧ ∀ x ∈ S, (Lit.int k x).wf = true
  | [], _ => ⟨[], rfl, by simp⟩
  | v :: l, h => by
    obtain ⟨n, hn, hw⟩ := h 0 (by simp)
    obtain ⟨S, hS, hSw⟩ := ints_of l (fun i hi => by simpa using h (i + 1) (by simpa using hi))
    simp at hn
    subst hn
    refine ⟨n :: S, by simp [hS], ?_⟩
    intro x hx
    rcases List.mem_cons.1 hx with rfl | hx
    · exact hw
    · exact hSw x hx

section
variable {H : Type} {enc : TypeId × Value → H} {P : Program} {w : World} {base : Nat} {spare : Nat → Bool} {held : Bool}

/-- AN ARRAY OF INTEGERS THAT CAME IN BY VALUE, opened: its cells are those of a list of integers of its kind. -/
theorem open_arr {r : Reach} {b0 : Nat} {t e : TypeId} {n : Nat} {k : IntKind} {v : Value} {d : DataW H} {p : List MemPlace} (ht : P.underlying t = some (.array n e)) (he : P.underlying e = some (.int k)) (hce : P.cellsOf e = 1) (hct : P.cellsOf t = n)
    (hv : Value.okWide P w r b0 t v) (h : DataW.Trod enc P w base spare held t v d p) : ∃ S : List Int, v = .agg (arr k S) ∧ S.length = n ∧ ∀ x ∈ S, (Lit.int k x).wf = true := by
  obtain ⟨cs, rfl, hsz, _⟩ : ∃ cs, v = .agg cs ∧ cs.size = P.cellsOf t ∧ Row.okWide P w r b0 t cs := by
    simpa [Value.okWide, ht] using hv
  obtain ⟨fuel, hf⟩ := h
  obtain ⟨xs, m, _, _, hlen, hl, hel⟩ := DataW.trod_array ht hf
  obtain ⟨l⟩ := cs
  have hsz' : l.length = n := by simpa [hct] using hsz
  have key : ∀ i, i < l.length → ∃ q, l[i]? = some (.int k q) ∧ (Lit.int k q).wf = true := by
    intro i hi
    have hx := hel i (by omega)
    rw [hce] at hx
    have hxi : i < xs.length := by omega
    rw [List.getElem?_eq_getElem hxi] at hx
    obtain ⟨q, e1, _, e3⟩ := DataW.trod_int he hx
    refine ⟨q, ?_, e3⟩
    have : ((l.drop (i * 1)).take 1)[0]? = some (Value.int k q) := by
      have e1' : (l.drop (i * 1)).take 1 = [Value.int k q] := e1
      rw [e1']; rfl
    simpa using this
  obtain ⟨S, hS, hSw⟩ := ints_of l key
  refine ⟨S, ?_, ?_, hSw⟩
  · rw [hS]; rfl
  · rw [← hsz', hS]; simp
end

theorem bounds_of {S : List Int} (h : ∀ x ∈ S, (Lit.int .u8 x).wf = true) (i : Nat) : 0 ≤ S.getD i 0 ∧ S.getD i 0 ≤ 255 := by
  by_cases hi : i < S.length
  · have : S.getD i 0 = S[i] := by simp [hi]
    rw [this]
    exact bounds_u8 (h _ (List.getElem_mem hi))
  · have : S.getD i 0 = 0 := by simp [Nat.le_of_not_lt hi]
    rw [this]; omega

theorem four_of {α : Type} {l : List α} (h : l.length = 4) : ∃ a b c d, l = [a, b, c, d] := by
  match l, h with
  | [a, b, c, d], _ => exact ⟨a, b, c, d, rfl⟩

end Go.Proofs.Qxb6601108a
