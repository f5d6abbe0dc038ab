/-
  Slices of ints and of strings that come in, opened as what their elements read as.
-/
import Derived.Test.Qxb6605218aBase
import Derived.ProofKit
import Derived.OpenShut
import Derived.SliceStrings
namespace Go.Proofs.Qxb6605218a
open Go.ChangeShapes Go.WideShapes Go.ChangeAt Go.RowKit
set_option linter.unusedVariables false

section
variable {H : Type} {enc : TypeId × Value → H} {P : Program} {w : World} {base : Nat} {spare : Nat → Bool} {held : Bool}

/-- a cell found at an address: the address is a plain one -/
theorem plain_at {a : Addr} {v : Value} (h : w.cell? (a.add 0) = some v) : ∃ b off, a = ⟨b, off, none⟩ := by
  obtain ⟨b, off, spot⟩ := a
  have hspot : spot = none := by simpa [Addr.add] using World.cell?_spot h
  subst hspot
  exact ⟨b, off, rfl⟩

theorem open_iv {t e : TypeId} {a : Option Addr} {len cap : Nat} {d : DataW H} {p : List MemPlace} (ht : P.underlying t = some (.slice e)) (he : P.underlying e = some (.int .i64)) (hce : P.cellsOf e = 1)
    (h : DataW.Trod enc P w base spare held t (.slice a len cap) d p) : ∃ zs : List Int, (a = none → len = 0 ∧ cap = 0) ∧ SV w a len (iv zs) ∧ zs.length = len ∧ len ≤ maxLen := by
  obtain ⟨fuel, hf⟩ := h
  rcases open_ints ht he hce hf with ⟨hcs, _⟩ | ⟨x, l, c, zs, hcs, _, hl, hm, hz, _, hcell, hwz⟩
  · simp [Value.cells] at hcs
    obtain ⟨rfl, rfl, rfl⟩ := hcs
    exact ⟨[], fun _ => ⟨rfl, rfl⟩, .inl rfl, rfl, Nat.zero_le _⟩
  · simp [Value.cells] at hcs
    obtain ⟨rfl, rfl, rfl⟩ := hcs
    have hzl : len ≤ zs.length := by rw [hz]; split <;> omega
    refine ⟨zs.take len, by simp, ?_, by simp [hzl], Nat.le_trans hl hm⟩
    by_cases h0 : len = 0
    · exact .inl h0
    · obtain ⟨b, off, rfl⟩ := plain_at (hcell 0 (by omega))
      have hlt : b < w.heap.size := World.block_lt_of_cell? _ ((⟨b, off, none⟩ : Addr).add 0) (hcell 0 (by omega))
      refine .inr ⟨b, off, rfl, hlt, fun i hi => ?_⟩
      have := hcell i (by omega)
      rw [Go.WideShapes.add_plain] at this
      rw [this]
      simp [iv, hi]

theorem open_sv {t e : TypeId} {a : Option Addr} {len cap : Nat} {d : DataW H} {p : List MemPlace} (ht : P.underlying t = some (.slice e)) (he : P.underlying e = some .string) (hce : P.cellsOf e = 1)
    (h : DataW.Trod enc P w base spare held t (.slice a len cap) d p) : ∃ zs : List ByteArray, (a = none → len = 0 ∧ cap = 0) ∧ SV w a len (sv zs) ∧ zs.length = len ∧ len ≤ maxLen ∧ ∀ i, (zs.getD i ByteArray.empty).size ≤ maxLen := by
  obtain ⟨fuel, hf⟩ := h
  rcases open_strings ht he hce hf with ⟨hcs, _⟩ | ⟨x, l, c, zs, hcs, _, hl, hm, hz, _, hcell, hwz⟩
  · simp [Value.cells] at hcs
    obtain ⟨rfl, rfl, rfl⟩ := hcs
    exact ⟨[], fun _ => ⟨rfl, rfl⟩, .inl rfl, rfl, Nat.zero_le _, fun i => by simp⟩
  · simp [Value.cells] at hcs
    obtain ⟨rfl, rfl, rfl⟩ := hcs
    have hzl : len ≤ zs.length := by rw [hz]; split <;> omega
    refine ⟨zs.take len, by simp, ?_, by simp [hzl], Nat.le_trans hl hm, fun i => ?_⟩
    · by_cases h0 : len = 0
      · exact .inl h0
      · obtain ⟨b, off, rfl⟩ := plain_at (hcell 0 (by omega))
        have hlt : b < w.heap.size := World.block_lt_of_cell? _ ((⟨b, off, none⟩ : Addr).add 0) (hcell 0 (by omega))
        refine .inr ⟨b, off, rfl, hlt, fun i hi => ?_⟩
        have := hcell i (by omega)
        rw [Go.WideShapes.add_plain] at this
        rw [this]
        simp [sv, hi]
    · by_cases hi : i < (zs.take len).length
      · have e : (zs.take len).getD i ByteArray.empty = (zs.take len)[i] := by simp [List.getElem?_eq_getElem hi]
        rw [e]
        exact hwz _ (List.mem_of_mem_take (List.getElem_mem hi))
      · have e : (zs.take len).getD i ByteArray.empty = ByteArray.empty := by simp [List.getElem?_eq_none (Nat.le_of_not_lt hi)]
        rw [e]; exact Nat.zero_le _
end

end Go.Proofs.Qxb6605218a
