/-
  A SLICE OF INTEGERS THAT COMES IN, opened as what its elements read as.
-/
import Derived.Test.Qxb6601108aClone
import Derived.ProofKit
import Derived.OpenShut
namespace Go.Proofs.Qxb6601108a
open Go.ChangeShapes Go.WideShapes Go.ChangeAt Go.RowKit
set_option linter.unusedVariables false

section
variable {H : Type} {enc : TypeId × Value → H} {P : Program} {w : World} {base : Nat} {spare : Nat → Bool} {held : Bool}

theorem open_reads {t e : TypeId} {k : IntKind} {a : Option Addr} {len cap : Nat} {d : DataW H} {p : List MemPlace} (ht : P.underlying t = some (.slice e)) (he : P.underlying e = some (.int k)) (hce : P.cellsOf e = 1)
    (h : DataW.Trod enc P w base spare held t (.slice a len cap) d p) : ∃ zs : List Int, (a = none → len = 0 ∧ cap = 0) ∧ Reads k w a len zs ∧ zs.length = len ∧ len ≤ maxLen ∧ len ≤ cap ∧ ∀ x ∈ zs, (Lit.int k x).wf = true := by
  obtain ⟨fuel, hf⟩ := h
  rcases open_ints ht he hce hf with ⟨hcs, _⟩ | ⟨x, l, c, zs, hcs, _, hl, hm, hz, _, hcell, hwz⟩
  · simp [Value.cells] at hcs
    obtain ⟨rfl, rfl, rfl⟩ := hcs
    exact ⟨[], fun _ => ⟨rfl, rfl⟩, .inl rfl, rfl, Nat.zero_le _, Nat.le_refl _, by simp⟩
  · simp [Value.cells] at hcs
    obtain ⟨rfl, rfl, rfl⟩ := hcs
    have hzl : len ≤ zs.length := by rw [hz]; split <;> omega
    refine ⟨zs.take len, by simp, ?_, by simp [hzl], Nat.le_trans hl hm, hl, fun x hx => hwz x (List.mem_of_mem_take hx)⟩
    by_cases h0 : len = 0
    · exact .inl h0
    · obtain ⟨b, off, rfl, hc⟩ := ints_at hcell (by omega)
      have hlt : b < w.heap.size := World.block_lt_of_cell? _ ⟨b, off + 0, none⟩ (hc 0 (by omega))
      refine .inr ⟨b, off, rfl, hlt, fun i hi => ?_⟩
      rw [hc i (by omega)]
      simp [hi]
end

end Go.Proofs.Qxb6601108a
