/-
  What lies in memory while FnSummaryAnswersFacilityAndSeverityExactly (7) runs: the filter's box, the summary, the clone, the query; the contracts at both kinds.
-/
import Derived.Test.Qxb6601108aClone
import Derived.Test.Qxb6601108aSumLaw
import Derived.Deep.RegionWith
namespace Go.Proofs.Qxb6601108a
open Go.RowKit
set_option linter.unusedVariables false

theorem matches_k (kd p n : Int) (hk : kd = 2 ∨ kd = 3) (s : ByteArray) (p0 p1 p2 p3 : Int) (w : World) (h : -1 ≤ p) (h2 : p ≤ 191) :
    Calls Try.prog 21 #[.agg #[.int .i64 kd, .string s, .int .i64 n, .int .u16 p0, .int .u16 p1, .int .u16 p2, .int .u16 p3], .agg #[.int .i64 p, .slice none 0 0, .slice none 0 0]] w fun e w' => e = .returned (.bool (mB kd n p)) ∧ Below w.heap.size w w' := by
  rcases hk with rfl | rfl
  · rw [mB_two]; exact matches_fac p n s p0 p1 p2 p3 w h h2
  · rw [mB_three]; exact matches_sev p n s p0 p1 p2 p3 w h h2

theorem may_k (kd n : Int) (hk : kd = 2 ∨ kd = 3) (hd : domB kd n 0 0 0 0 = true) (s : ByteArray) (p0 p1 p2 p3 : Int) (S : List Int) (w : World) (hS : S.length = 68) (hb : ∀ i, 0 ≤ S.getD i 0 ∧ S.getD i 0 ≤ 255) :
    Calls Try.prog 27 #[.agg #[.int .i64 kd, .string s, .int .i64 n, .int .u16 p0, .int .u16 p1, .int .u16 p2, .int .u16 p3], .agg (arr .u8 S)] w fun e w' => e = .returned (.bool (ansB kd n S)) ∧ Below w.heap.size w w' := by
  rcases hk with rfl | rfl
  · have hn : 0 ≤ n ∧ n ≤ 23 := by simpa [domB] using hd
    simp only [ansB, if_true]
    exact may_fac n s p0 p1 p2 p3 S w hS hb hn.1 hn.2
  · have hn : 0 ≤ n ∧ n ≤ 7 := by simpa [domB] using hd
    obtain ⟨m, rfl⟩ := Int.eq_ofNat_of_zero_le hn.1
    have e : ansB 3 (m : Int) S = anyTo (S.getD 3 0) (m + 1) := by simp [ansB]
    rw [e]
    exact may_sev m s p0 p1 p2 p3 S w hS hb (by omega)

theorem arr_set (k : IntKind) (T : List Int) (i : Nat) (x : Int) : (arr k T).setIfInBounds i (.int k x) = arr k (T.set i x) := by
  simp [arr, List.map_set]

/-- the filter's box and the summary, in memory -/
structure Sum (F T : List Int) (bs : Nat) (w wr : World) : Prop where
  bel : Below w.heap.size w wr
  lo : w.heap.size < bs
  hi : bs < wr.heap.size
  fi : wr.heap[w.heap.size]? = some (.cells (arr .u8 F) 44)
  su : wr.heap[bs]? = some (.cells (arr .u8 T) 49)

theorem Sum.on {F T : List Int} {bs : Nat} {w a b : World} (h : Sum F T bs w a) (k : Below a.heap.size a b) : Sum F T bs w b := by
  have := h.lo
  have := h.hi
  have := k.size
  exact ⟨h.bel.trans (k.mono (by omega)), h.lo, by omega, by rw [k.block _ (by omega)]; exact h.fi, by rw [k.block _ (by omega)]; exact h.su⟩

theorem Sum.set {F T : List Int} {bs : Nat} {w a : World} (h : Sum F T bs w a) (i : Nat) (x : Int) : Sum F (T.set i x) bs w (a.setCell ⟨bs, i, none⟩ (.int .u8 x)) := by
  have h1 := h.lo
  have h2 := h.hi
  refine ⟨h.bel.setCell (by show _ ≤ bs; omega) _, h1, by simpa using h2, ?_, ?_⟩
  · rw [heap_setCell_other _ _ _ _ (by show _ ≠ bs; omega)]; exact h.fi
  · rw [heap_setCell_same _ _ _ _ _ _ h.su, arr_set]

theorem Sum.drew {F T : List Int} {bs : Nat} {w a : World} (h : Sum F T bs w a) : Sum F T bs w a.drew := ⟨h.bel.drew, h.lo, h.hi, h.fi, h.su⟩

theorem Own.other {B : Nat} {w : World} {g n : Nat} {f : Nat → Value} (h : Own B w g n f) (b k : Nat) (hb : b ≠ g) (v : Value) : Own B (w.setCell ⟨b, k, none⟩ v) g n f :=
  ⟨h.lo, by simpa using h.hi, fun i hi => by rw [World.cell?_setCell_other _ _ _ _ (by simp <;> omega)]; exact h.cell i hi, fun i => by rw [World.frozen?_setCell]; exact h.fz i⟩

def zeros (n : Nat) : List Int := List.replicate n 0
theorem zero49 (w : World) : (zeroValue 49).run Try.prog w = .ok (.agg (arr .u8 (zeros 68))) w := by kernel_rfl
theorem hi44 (S : List Int) (h : S.length = 64) : (Try.prog.info? 44).map (·.size) = some (arr .u8 S).size := by
  rw [show (arr .u8 S).size = 64 by simp [arr, h]]
  kernel_rfl
theorem hi49 (S : List Int) (h : S.length = 68) : (Try.prog.info? 49).map (·.size) = some (arr .u8 S).size := by
  rw [show (arr .u8 S).size = 68 by simp [arr, h]]
  kernel_rfl


theorem reads_on {k : IntKind} {w w' : World} {a : Option Addr} {len : Nat} {zs : List Int} (h : Reads k w a len zs) (hb : Below w.heap.size w w') : Reads k w' a len zs := by
  rcases h with h | ⟨b, off, e, hbl, hc⟩
  · exact .inl h
  · exact .inr ⟨b, off, e, Nat.lt_of_lt_of_le hbl hb.size, fun i hi => by rw [hb.cell (show (⟨b, off + i, none⟩ : Addr).block < _ from hbl)]; exact hc i hi⟩

theorem reads_at {k : IntKind} {w : World} {a : Option Addr} {len : Nat} {zs : List Int} (h : Reads k w a len zs) (i : Nat) (hi : i < len) : ∃ b off, a = some ⟨b, off, none⟩ ∧ w.cell? ⟨b, off + i, none⟩ = some (.int k (zs.getD i 0)) := by
  rcases h with h | ⟨b, off, e, _, hc⟩
  · omega
  · exact ⟨b, off, e, hc i hi⟩

/-- the clone, in a world in which only block bs is written -/
def CloneIs (len : Nat) (a' : Option Addr) (bs : Nat) (zs : List Int) (wr : World) : Prop := len = 0 ∨ ∃ g, a' = some ⟨g, 0, none⟩ ∧ g ≠ bs ∧ Own 0 wr g len (fun i => .int .i64 (zs.getD i 0))

theorem CloneIs.on {len : Nat} {a' : Option Addr} {bs : Nat} {zs : List Int} {wr w' : World} (h : CloneIs len a' bs zs wr) (k : Below wr.heap.size wr w') : CloneIs len a' bs zs w' := by
  rcases h with h | ⟨g, e, hne, O⟩
  · exact .inl h
  · exact .inr ⟨g, e, hne, O.on k⟩
theorem CloneIs.set {len : Nat} {a' : Option Addr} {bs : Nat} {zs : List Int} {wr : World} (h : CloneIs len a' bs zs wr) (i : Nat) (v : Value) : CloneIs len a' bs zs (wr.setCell ⟨bs, i, none⟩ v) := by
  rcases h with h | ⟨g, e, hne, O⟩
  · exact .inl h
  · exact .inr ⟨g, e, hne, O.other bs i (fun e => hne e.symm) v⟩
theorem CloneIs.drew {len : Nat} {a' : Option Addr} {bs : Nat} {zs : List Int} {wr : World} (h : CloneIs len a' bs zs wr) : CloneIs len a' bs zs wr.drew := h.on ((Below.refl _ _).drew)
theorem CloneIs.at {len : Nat} {a' : Option Addr} {bs : Nat} {zs : List Int} {wr : World} (h : CloneIs len a' bs zs wr) (i : Nat) (hi : i < len) : ∃ g, a' = some ⟨g, 0, none⟩ ∧ wr.cell? ⟨g, i, none⟩ = some (.int .i64 (zs.getD i 0)) := by
  rcases h with h | ⟨g, e, _, O⟩
  · omega
  · exact ⟨g, e, O.cell i hi⟩

/-- the query, in its block -/
def QIs (kd n : Int) (bq : Nat) (wr : World) : Prop := wr.heap[bq]? = some (.cells #[.int .i64 kd, .string ⟨#[]⟩, .int .i64 n, .int .u16 0, .int .u16 0, .int .u16 0, .int .u16 0] 39)
theorem QIs.on {kd n : Int} {bq : Nat} {wr w' : World} (h : QIs kd n bq wr) (k : Below wr.heap.size wr w') : QIs kd n bq w' := by
  unfold QIs at *
  rw [k.block _ (by
    by_cases hlt : bq < wr.heap.size
    · exact hlt
    · rw [Array.getElem?_eq_none (by omega)] at h; cases h)]
  exact h
theorem QIs.set {kd n : Int} {bq : Nat} {wr : World} (h : QIs kd n bq wr) (bs i : Nat) (hne : bq ≠ bs) (v : Value) : QIs kd n bq (wr.setCell ⟨bs, i, none⟩ v) := by
  unfold QIs at *
  rw [heap_setCell_other _ _ _ _ hne]; exact h
theorem QIs.cells {kd n : Int} {bq : Nat} {wr : World} (h : QIs kd n bq wr) : wr.cell? ⟨bq, 0, none⟩ = some (.int .i64 kd) ∧ wr.cell? ⟨bq, 1, none⟩ = some (.string ⟨#[]⟩) ∧ wr.cell? ⟨bq, 2, none⟩ = some (.int .i64 n) ∧ wr.cell? ⟨bq, 3, none⟩ = some (.int .u16 0) ∧ wr.cell? ⟨bq, 4, none⟩ = some (.int .u16 0) ∧ wr.cell? ⟨bq, 5, none⟩ = some (.int .u16 0) ∧ wr.cell? ⟨bq, 6, none⟩ = some (.int .u16 0) := by
  unfold QIs at h
  refine ⟨?_, ?_, ?_, ?_, ?_, ?_, ?_⟩ <;> rw [cell_of_row _ _ _ _ _ _ h] <;> rfl

theorem pow2_int (j : Int) (w : World) (h0 : 0 ≤ j) (h1 : j ≤ 7) : Calls Try.prog 26 #[.int .i64 j] w fun e w' => e = .returned (.int .u8 (2 ^ j.toNat)) ∧ w' = w := by
  obtain ⟨m, rfl⟩ := Int.eq_ofNat_of_zero_le h0
  exact pow2_any m w (by omega)

theorem zeros_at (n i : Nat) : (zeros n).getD i 0 = 0 := by
  by_cases h : i < n <;> simp [zeros, h]
theorem zeros_bd (n : Nat) (i : Nat) : 0 ≤ (zeros n).getD i 0 ∧ (zeros n).getD i 0 ≤ 255 := by rw [zeros_at]; omega

theorem take_snoc {zs : List Int} {k : Nat} (h : k < zs.length) : zs.take (k + 1) = zs.take k ++ [zs.getD k 0] := by
  rw [List.take_succ_eq_append_getElem h]; simp [h]


end Go.Proofs.Qxb6601108a
