/-
  The walk of FnMayMatchReadsTheSummaryBitByBit (8): the summary decoded bit by bit into three arrays, then the answer of MayMatch held against them.
-/
import Derived.Test.Qxb6601108aMay
namespace Go.Proofs.Qxb6601108a
open Go.RowKit
set_option linter.unusedVariables false

/-- bit q of the summary, all of its bits counted in one row -/
def gB (S : List Int) (q : Nat) : Bool := bitB (S.getD (q / 8) 0) (q % 8)
/-- what the decoded arrays hold at bit q when the first t bits are decoded -/
def bv (S : List Int) (t q : Nat) : Bool := decide (q < t) && gB S q

theorem bv_new (S : List Int) (t : Nat) : bv S (t + 1) t = gB S t := by simp [bv]
theorem bv_old (S : List Int) (t q : Nat) (h : q ≠ t) : bv S (t + 1) q = bv S t q := by
  unfold bv
  have : decide (q < t + 1) = decide (q < t) := by rw [decide_eq_decide]; omega
  rw [this]
theorem bv_zero (S : List Int) (q : Nat) : bv S 0 q = false := by simp [bv]
theorem bv_done (S : List Int) (t q : Nat) (h : q < t) : bv S t q = gB S q := by simp [bv, h]

/-- a block of false cells, its length not written out -/
def falses (n : Nat) : Array Value := Array.replicate n (.bool false)
theorem falses_at (n i : Nat) (h : i < n) : (falses n)[i]? = some (.bool false) := by simp [falses, h]

/-- what lies in memory while the summary is decoded -/
structure Dec (S : List Int) (p0 p1 p2 p3 : Int) (b1 : Nat) (w : World) (t : Nat) (wr : World) : Prop where
  bel : Below w.heap.size w wr
  lo : w.heap.size + 2 ≤ b1
  sz : b1 + 3 ≤ wr.heap.size
  pr : wr.heap[w.heap.size]? = some (.cells #[.int .u16 p0, .int .u16 p1, .int .u16 p2, .int .u16 p3] 37)
  su : wr.heap[w.heap.size + 1]? = some (.cells (arr .u8 S) 48)
  fa : ∀ i, i < 24 → wr.cell? ⟨b1, i, none⟩ = some (.bool (bv S t i))
  se : ∀ i, i < 8 → wr.cell? ⟨b1 + 1, i, none⟩ = some (.bool (bv S t (24 + i)))
  fi : ∀ i, i < 512 → wr.cell? ⟨b1 + 1 + 1, i, none⟩ = some (.bool (bv S t (32 + i)))
  fz : ∀ b i, b1 ≤ b → b < b1 + 3 → wr.frozen? ⟨b, i, none⟩ = false

theorem cs_same {w : World} {a : Addr} {u : Value} (v : Value) (h : w.cell? a = some u) : (w.setCell a v).cell? a = some v := World.cell?_setCell_same _ _ _ h
theorem cs_off (w : World) (b i j : Nat) (v : Value) (h : i ≠ j) : (w.setCell ⟨b, j, none⟩ v).cell? ⟨b, i, none⟩ = w.cell? ⟨b, i, none⟩ := World.cell?_setCell_other _ _ _ _ (by simp <;> omega)
theorem cs_blk (w : World) (b c i j : Nat) (v : Value) (h : b ≠ c) : (w.setCell ⟨c, j, none⟩ v).cell? ⟨b, i, none⟩ = w.cell? ⟨b, i, none⟩ := World.cell?_setCell_other _ _ _ _ (by simp <;> omega)

section
variable {S : List Int} {p0 p1 p2 p3 : Int} {b1 : Nat} {w : World} {t : Nat} {wr : World}

theorem Dec.setF (D : Dec S p0 p1 p2 p3 b1 w t wr) (ht : t < 24) : Dec S p0 p1 p2 p3 b1 w (t + 1) (wr.setCell ⟨b1, t, none⟩ (.bool (gB S t))) := by
  have h1 := D.lo
  have h2 := D.sz
  refine ⟨D.bel.setCell (by show _ ≤ b1; omega) _, h1, by simpa using h2, ?_, ?_, ?_, ?_, ?_, ?_⟩
  · rw [heap_setCell_other _ _ _ _ (by show _ ≠ b1; omega)]; exact D.pr
  · rw [heap_setCell_other _ _ _ _ (by show _ ≠ b1; omega)]; exact D.su
  · intro i hi
    by_cases e : i = t
    · subst e; rw [cs_same _ (D.fa i hi), bv_new]
    · rw [cs_off _ _ _ _ _ (by omega), bv_old _ _ _ e]; exact D.fa i hi
  · intro i hi
    rw [cs_blk _ _ _ _ _ _ (by omega), bv_old _ _ _ (by omega)]; exact D.se i hi
  · intro i hi
    rw [cs_blk _ _ _ _ _ _ (by omega), bv_old _ _ _ (by omega)]; exact D.fi i hi
  · intro b i hb hb'
    rw [World.frozen?_setCell]; exact D.fz b i hb hb'

theorem Dec.setS (D : Dec S p0 p1 p2 p3 b1 w t wr) (j : Nat) (e : t = 24 + j) (hj : j < 8) : Dec S p0 p1 p2 p3 b1 w (t + 1) (wr.setCell ⟨b1 + 1, j, none⟩ (.bool (gB S t))) := by
  have h1 := D.lo
  have h2 := D.sz
  refine ⟨D.bel.setCell (by show _ ≤ b1 + 1; omega) _, h1, by simpa using h2, ?_, ?_, ?_, ?_, ?_, ?_⟩
  · rw [heap_setCell_other _ _ _ _ (by show _ ≠ b1 + 1; omega)]; exact D.pr
  · rw [heap_setCell_other _ _ _ _ (by show _ ≠ b1 + 1; omega)]; exact D.su
  · intro i hi
    rw [cs_blk _ _ _ _ _ _ (by omega), bv_old _ _ _ (by omega)]; exact D.fa i hi
  · intro i hi
    by_cases e' : i = j
    · subst e'; rw [cs_same _ (D.se i hi), ← e, bv_new]
    · rw [cs_off _ _ _ _ _ (by omega), bv_old _ _ _ (by omega)]; exact D.se i hi
  · intro i hi
    rw [cs_blk _ _ _ _ _ _ (by omega), bv_old _ _ _ (by omega)]; exact D.fi i hi
  · intro b i hb hb'
    rw [World.frozen?_setCell]; exact D.fz b i hb hb'

theorem Dec.setL (D : Dec S p0 p1 p2 p3 b1 w t wr) (j : Nat) (e : t = 32 + j) (hj : j < 512) : Dec S p0 p1 p2 p3 b1 w (t + 1) (wr.setCell ⟨b1 + 1 + 1, j, none⟩ (.bool (gB S t))) := by
  have h1 := D.lo
  have h2 := D.sz
  refine ⟨D.bel.setCell (by show _ ≤ b1 + 2; omega) _, h1, by simpa using h2, ?_, ?_, ?_, ?_, ?_, ?_⟩
  · rw [heap_setCell_other _ _ _ _ (by show _ ≠ b1 + 2; omega)]; exact D.pr
  · rw [heap_setCell_other _ _ _ _ (by show _ ≠ b1 + 2; omega)]; exact D.su
  · intro i hi
    rw [cs_blk _ _ _ _ _ _ (by omega), bv_old _ _ _ (by omega)]; exact D.fa i hi
  · intro i hi
    rw [cs_blk _ _ _ _ _ _ (by omega), bv_old _ _ _ (by omega)]; exact D.se i hi
  · intro i hi
    by_cases e' : i = j
    · subst e'; rw [cs_same _ (D.fi i hi), ← e, bv_new]
    · rw [cs_off _ _ _ _ _ (by omega), bv_old _ _ _ (by omega)]; exact D.fi i hi
  · intro b i hb hb'
    rw [World.frozen?_setCell]; exact D.fz b i hb hb'

/-- the cell of the summary's byte i -/
theorem Dec.byte (D : Dec S p0 p1 p2 p3 b1 w t wr) (hS : S.length = 68) (i : Nat) (h : i < 68) : wr.cell? ⟨w.heap.size + 1, i, none⟩ = some (.int .u8 (S.getD i 0)) := by
  rw [cell_of_row _ _ _ _ _ _ D.su]; exact arr_cell _ _ _ (by omega)
end

/-- the start -/
theorem dec_start (S : List Int) (p0 p1 p2 p3 : Int) (w w1 : World) (hb : Below ((w.alloc (.cells #[.int .u16 p0, .int .u16 p1, .int .u16 p2, .int .u16 p3] 37)).alloc (.cells (arr .u8 S) 48)).heap.size ((w.alloc (.cells #[.int .u16 p0, .int .u16 p1, .int .u16 p2, .int .u16 p3] 37)).alloc (.cells (arr .u8 S) 48)) w1) (a24 a8 a512 : Array Value)
    (h24 : ∀ i, i < 24 → a24[i]? = some (.bool false)) (h8 : ∀ i, i < 8 → a8[i]? = some (.bool false)) (h512 : ∀ i, i < 512 → a512[i]? = some (.bool false)) :
    Dec S p0 p1 p2 p3 w1.heap.size w 0 (((w1.alloc (.cells a24 54)).alloc (.cells a8 55)).alloc (.cells a512 56)) := by
  have hs := hb.size
  simp at hs
  have hlt : w.heap.size + 1 < w1.heap.size := by omega
  have hx : ∀ k, k < w1.heap.size → (((w1.alloc (.cells a24 54)).alloc (.cells a8 55)).alloc (.cells a512 56)).heap[k]? = w1.heap[k]? := by
    intro k hk
    rw [heap_alloc_old _ _ (by simp; omega), heap_alloc_old _ _ (by simp; omega), heap_alloc_old _ _ hk]
  refine ⟨?_, by omega, by simp, ?_, ?_, ?_, ?_, ?_, ?_⟩
  · refine ((((((Below.refl _ _).alloc (Nat.le_refl _) _).alloc (by simp) _).trans (hb.mono (by simp; omega))).alloc (by omega) _).alloc (by simp; omega) _).alloc (by simp; omega) _
  · rw [hx _ (by omega), hb.block _ (by simp; omega), heap_alloc2_old]
  · rw [hx _ (by omega), hb.block _ (by simp), heap_alloc2_new]
  · intro i hi
    rw [bv_zero, World.cell?_alloc_past _ _ _ (by simp; omega), World.cell?_alloc_past _ _ _ (by simp), World.cell?_alloc_at _ _ _ _ rfl]; exact h24 i hi
  · intro i hi
    rw [bv_zero, World.cell?_alloc_past _ _ _ (by simp), World.cell?_alloc_at _ _ _ _ (by simp)]; exact h8 i hi
  · intro i hi
    rw [bv_zero, World.cell?_alloc_at _ _ _ _ (by simp)]; exact h512 i hi
  · intro b i h h'
    have : b = w1.heap.size ∨ b = w1.heap.size + 1 ∨ b = w1.heap.size + 2 := by omega
    rcases this with rfl | rfl | rfl
    · rw [World.frozen?_alloc_past _ _ _ (by simp; omega), World.frozen?_alloc_past _ _ _ (by simp), World.frozen?_alloc_at _ _ _ _ rfl]
    · rw [World.frozen?_alloc_past _ _ _ (by simp), World.frozen?_alloc_at _ _ _ _ (by simp)]
    · rw [World.frozen?_alloc_at _ _ _ _ (by simp)]

/-- A whole array read out of its block inside a quiet region, in one step: the cells are not looked at. -/
theorem wpQuiet_load_row {P : Program} {ops : Array Oper} {C : World → Prop} {Q : Act → Prop} {a : Act} {o : Oper} {rest : List Oper} (hw : Region.wanted o (yielded ops a.tmps) = true) (ty : TypeId) (x : Operand) (ho : o.op = .load ty x)
    (g : Nat) (hx : a.eval x = .pointer (some ⟨g, 0, none⟩)) (t : TypeId) (cs : Array Value) (fr : Nat × Nat) (d : TypeDesc) (hg : ∀ w, C w → w.heap[g]? = some (.cells cs t fr))
    (hu : P.underlying ty = some d) (hd : (match d with | .struct _ | .array _ _ => true | _ => false) = true) (hi : (P.info? ty).map (·.size) = some cs.size)
    (h : ∀ K : Act → Prop, (∀ a, wpQuiet P ops C Q rest a → K a) → K (a.put o.dst (.agg cs))) : wpQuiet P ops C Q (o :: rest) a :=
  wpQuiet_step fun K hK => by
    rw [if_pos hw]
    refine ⟨.agg cs, fun w hC => ?_, h K hK⟩
    unfold Oper.quietAt execOp
    simp only [ho, hx, Instr.loadAt, Instr.sureAddr, Sem.run_bind, Sem.run_pure, Result.andThen_ok, run_loadVar_row w g t ty cs fr d (hg w hC) hu hd hi]
    exact ⟨rfl, rfl⟩

/-- a block below, in every world of that kind -/
theorem block_regrown {w : World} {g : Nat} {o : Obj} (h : w.heap[g]? = some o) : ∀ w', (∃ p : Regrown, w' = Go.Sort.grow (redrawn w p.d) p.os) → w'.heap[g]? = some o := by
  rintro w' ⟨p, rfl⟩
  rw [(below_regrown w p.d p.os).block g (by
    by_cases hlt : g < w.heap.size
    · exact hlt
    · rw [Array.getElem?_eq_none (by omega)] at h; cases h)]
  exact h

theorem gB_split (S : List Int) (n : Int) (h : 0 ≤ n) : bitB (S.getD (n / 8).toNat 0) (n % 8).toNat = gB S n.toNat := by
  unfold gB
  rw [show (n / 8).toNat = n.toNat / 8 by omega, show (n % 8).toNat = n.toNat % 8 by omega]

theorem may_fac_g (n : Int) (s : ByteArray) (p0 p1 p2 p3 : Int) (S : List Int) (w : World) (hS : S.length = 68) (hb : ∀ i, 0 ≤ S.getD i 0 ∧ S.getD i 0 ≤ 255) (h0 : 0 ≤ n) (h1 : n ≤ 23) :
    Calls Try.prog 27 #[.agg #[.int .i64 2, .string s, .int .i64 n, .int .u16 p0, .int .u16 p1, .int .u16 p2, .int .u16 p3], .agg (arr .u8 S)] w fun e w' => e = .returned (.bool (gB S n.toNat)) ∧ Below w.heap.size w w' := by
  rw [← gB_split S n h0]
  exact may_fac n s p0 p1 p2 p3 S w hS hb h0 h1

theorem hi48 (S : List Int) (h : S.length = 68) : (Try.prog.info? 48).map (·.size) = some (arr .u8 S).size := by
  rw [show (arr .u8 S).size = 68 by simp [arr, h]]
  kernel_rfl

theorem probe_cell (p0 p1 p2 p3 : Int) (S : List Int) (k : Nat) (hk : k < 4) (a0 : 0 ≤ p0) (b0 : p0 ≤ 511) (a1 : 0 ≤ p1) (b1 : p1 ≤ 511) (a2 : 0 ≤ p2) (b2 : p2 ≤ 511) (a3 : 0 ≤ p3) (b3 : p3 ≤ 511) :
    ∃ q : Int, 0 ≤ q ∧ q ≤ 511 ∧ (#[Value.int .u16 p0, .int .u16 p1, .int .u16 p2, .int .u16 p3])[k]? = some (Value.int .u16 q) ∧ prTo S [p0, p1, p2, p3] (k + 1) = (prTo S [p0, p1, p2, p3] k && prB S q) := by
  have : k = 0 ∨ k = 1 ∨ k = 2 ∨ k = 3 := by omega
  rcases this with rfl | rfl | rfl | rfl
  · exact ⟨p0, a0, b0, rfl, by simp [prTo]⟩
  · exact ⟨p1, a1, b1, rfl, by simp [prTo]⟩
  · exact ⟨p2, a2, b2, rfl, by simp [prTo, Bool.and_assoc]⟩
  · exact ⟨p3, a3, b3, rfl, by simp [prTo, Bool.and_assoc]⟩

theorem prB_g (S : List Int) (q : Int) (h : 0 ≤ q) : gB S (32 + q.toNat) = prB S q := by
  unfold gB prB
  rw [show (32 + q.toNat) / 8 = (4 + q / 8).toNat by omega, show (32 + q.toNat) % 8 = (q % 8).toNat by omega]

theorem sev_g (S : List Int) (j : Nat) (h : j < 8) : gB S (24 + j) = bitB (S.getD 3 0) j := by
  unfold gB
  rw [show (24 + j) / 8 = 3 by omega, show (24 + j) % 8 = j by omega]

theorem anyTo_succ (x : Int) (k : Nat) : anyTo x (k + 1) = (anyTo x k || bitB x k) := by
  simp [anyTo, List.range_succ]

theorem zero56 (w : World) : (zeroValue 56).run Try.prog w = .ok (.agg (falses 512)) w := by kernel_rfl

theorem lit24 (i : Nat) (h : i < 24) : (#[Value.bool false, Value.bool false, Value.bool false, Value.bool false, Value.bool false, Value.bool false, Value.bool false, Value.bool false, Value.bool false, Value.bool false, Value.bool false, Value.bool false, Value.bool false, Value.bool false, Value.bool false, Value.bool false, Value.bool false, Value.bool false, Value.bool false, Value.bool false, Value.bool false, Value.bool false, Value.bool false, Value.bool false])[i]? = some (.bool false) := falses_at 24 i h
theorem lit8 (i : Nat) (h : i < 8) : (#[Value.bool false, Value.bool false, Value.bool false, Value.bool false, Value.bool false, Value.bool false, Value.bool false, Value.bool false])[i]? = some (.bool false) := falses_at 8 i h

set_option maxRecDepth 100000 in
set_option maxHeartbeats 1000000 in
theorem walk_in (kd n p0 p1 p2 p3 : Int) (S : List Int) (w : World) (hS : S.length = 68) (hbd : ∀ i, 0 ≤ S.getD i 0 ∧ S.getD i 0 ≤ 255) (d0 : 0 ≤ p0) (d1 : 0 ≤ p1) (d2 : 0 ≤ p2) (d3 : 0 ≤ p3) (hd : Hid (domB kd n p0 p1 p2 p3 = true)) :
    Calls Try.prog 8 #[.int .i64 kd, .int .i64 n, .agg #[.int .u16 p0, .int .u16 p1, .int .u16 p2, .int .u16 p3], .agg (arr .u8 S)] w fun e w' => e = .returned (.bool true) ∧ Below w.heap.size w w' := by
  have HL : Hid (S.length = 68) := hS
  have HB : Hid (∀ i, 0 ≤ S.getD i 0 ∧ S.getD i 0 ≤ 255) := hbd
  clear hS hbd
  have z56 := zero56
  go_enter Try.func8, Try.ntmps8
  go_wp2_with (go_at_call 23; refine (dom_any _ _ _ _ _ _ _).mono ?_; rintro e w1 ⟨rfl, hb⟩; rw [hd.out])
  have D0 := dec_start S p0 p1 p2 p3 w w1 hb _ _ _ lit24 lit8 (falses_at 512)
  clear z56
  go_loopw [12, 13, 14] (fun bb _ _ wr => ∃ b : Nat, b ≤ 68 ∧ bb = .int .i64 b ∧ Dec S p0 p1 p2 p3 w1.heap.size w (8 * b) wr) (fun bb _ _ _ => 68 - (intOf bb).toNat)
  case atStart => exact ⟨0, by omega, rfl, D0⟩
  case round =>
    clear D0
    obtain ⟨b, hb68, rfl, D⟩ := hrel
    by_cases hlt : b < 68
    · have hltb : decide ((b : Int) < 68) = true := by simp; omega
      go_wp2
      obtain ⟨wo, rfl⟩ : ∃ wo : World, wo = wr := ⟨_, rfl⟩
      go_loopw [13, 14] (fun jj _ wr => ∃ j : Nat, j ≤ 8 ∧ jj = .int .i64 j ∧ Dec S p0 p1 p2 p3 w1.heap.size w (8 * b + j) wr) (fun jj _ _ => 8 - (intOf jj).toNat)
      case atStart => exact ⟨0, by omega, rfl, D⟩
      case round =>
        clear D
        obtain ⟨j, hj, rfl, D⟩ := hrel
        by_cases hj8 : j < 8
        · have hcell := D.byte HL.out b hlt
          have x0 := (HB.out b).1
          have x1 := (HB.out b).2
          have HG : Hid (gB S (8 * b + j) = bitB (S.getD b 0) j) := by
            show gB S (8 * b + j) = _
            unfold gB
            rw [show (8 * b + j) / 8 = b by omega, show (8 * b + j) % 8 = j by omega]
          generalize S.getD b 0 = x at *
          by_cases hb3 : b < 3
          · have ho : (8 * (b : Int) + (j : Int)).toNat = 8 * b + j := by omega
            have hc := D.fa (8 * b + j) (by omega)
            have hf := D.fz w1.heap.size (8 * b + j) (by omega) (by omega)
            go_wp2_with (go_at_call 28; refine (bit_any _ _ _ x0 x1 (by omega)).mono ?_; rintro e wv ⟨rfl, rfl⟩)
            go_roundw
            case rel => exact ⟨j + 1, by omega, by go_num, by rw [← HG.out]; exact D.setF (by omega)⟩
            case measure => simp [intOf]; omega
          · by_cases hb4 : b = 3
            · have he : ((b : Int) == 3) = true := by simp; omega
              have HB3 : Hid (b = 3) := hb4
              clear hb4
              have hc := D.se j hj8
              have hf := D.fz (w1.heap.size + 1) j (by omega) (by omega)
              go_wp2_with (go_at_call 28; refine (bit_any _ _ _ x0 x1 (by omega)).mono ?_; rintro e wv ⟨rfl, rfl⟩)
              go_roundw
              case rel => exact ⟨j + 1, by omega, by go_num, by rw [← HG.out]; exact D.setS j (by have := HB3.out; omega) hj8⟩
              case measure => simp [intOf]; omega
            · have ho : (8 * ((b : Int) - 4) + (j : Int)).toNat = 8 * (b - 4) + j := by omega
              have hc := D.fi (8 * (b - 4) + j) (by omega)
              have hf := D.fz (w1.heap.size + 1 + 1) (8 * (b - 4) + j) (by omega) (by omega)
              have he : ((b : Int) == 3) = false := by simp; omega
              go_wp2_with (go_at_call 28; refine (bit_any _ _ _ x0 x1 (by omega)).mono ?_; rintro e wv ⟨rfl, rfl⟩)
              go_roundw
              case rel => exact ⟨j + 1, by omega, by go_num, by rw [← HG.out]; exact D.setL (8 * (b - 4) + j) (by omega) (by omega)⟩
              case measure => simp [intOf]; omega
        · go_wp2
          go_roundw
          case rel => exact ⟨b + 1, by omega, by go_num, by have e : j = 8 := by omega
                                                            subst e; exact D⟩
          case measure => simp [intOf]; omega
    · obtain rfl : b = 68 := by omega
      have pr0 := D.pr
      have su := D.su
      have c0 := cell_regrown (show wr.cell? ⟨w.heap.size, 0, none⟩ = some (.int .u16 p0) by rw [cell_of_row _ _ _ _ _ _ pr0]; rfl)
      have c1 := cell_regrown (show wr.cell? ⟨w.heap.size, 1, none⟩ = some (.int .u16 p1) by rw [cell_of_row _ _ _ _ _ _ pr0]; rfl)
      have c2 := cell_regrown (show wr.cell? ⟨w.heap.size, 2, none⟩ = some (.int .u16 p2) by rw [cell_of_row _ _ _ _ _ _ pr0]; rfl)
      have c3 := cell_regrown (show wr.cell? ⟨w.heap.size, 3, none⟩ = some (.int .u16 p3) by rw [cell_of_row _ _ _ _ _ _ pr0]; rfl)
      by_cases k2 : kd = 2
      · subst k2
        have hdn : 0 ≤ n ∧ n ≤ 23 := by have := hd.out; simpa [domB] using this
        obtain ⟨n0, n1⟩ := hdn
        have hc := D.fa n.toNat (by omega)
        rw [bv_done _ _ _ (by omega)] at hc
        go_wp2
        refine wp_region_quiet_below (by kernel_rfl) (by kernel_rfl) ?_
        repeat (first | (refine wpQuiet_load_row (by rfl) 48 _ rfl _ rfl _ _ _ _ (block_regrown su) Try.underlying48 rfl (hi48 S HL.out) (fun K hK => ?_); simp [Act.put]; refine hK _ ?_; clear hK K) | go_big_quiet_step ((first | (go_at_call 20; exact Calls.regrown_of (zzq_any _ _ _ _ _ _ _ _)) | (go_at_call 27; exact Calls.regrown_of (may_fac_g _ _ _ _ _ _ _ _ HL.out HB.out n0 n1)))) | quiet_step ((first | (go_at_call 20; exact Calls.regrown_of (zzq_any _ _ _ _ _ _ _ _)) | (go_at_call 27; exact Calls.regrown_of (may_fac_g _ _ _ _ _ _ _ _ HL.out HB.out n0 n1)))))
        refine wpQuiet_nil ?_
        intro wq hw'
        obtain ⟨⟨dq, osq⟩, hw''⟩ := hw'
        have bel : Below w.heap.size w wq := by rw [hw'']; exact D.bel.trans ((below_regrown _ _ _).mono D.bel.size)
        clear hw''
        go_wp2
        go_ret
        exact ⟨rfl, bel⟩
      · by_cases k3 : kd = 3
        · subst k3
          have hdn : 0 ≤ n ∧ n ≤ 7 := by have := hd.out; simpa [domB] using this
          obtain ⟨n0, n1⟩ := hdn
          obtain ⟨m, rfl⟩ := Int.eq_ofNat_of_zero_le n0
          have hm7 : m ≤ 7 := by omega
          clear n0 n1
          go_wp2
          go_loop [15, 16] (fun want jj => ∃ k : Nat, k ≤ m + 1 ∧ jj = .int .i64 k ∧ want = .bool (anyTo (S.getD 3 0) k)) (fun _ jj => m + 1 - (intOf jj).toNat)
          case atStart => exact ⟨0, by omega, rfl, by simp [anyTo]⟩
          case round =>
            obtain ⟨k, hk, rfl, rfl⟩ := hrel
            by_cases hkm : k ≤ m
            · have hc := D.se k (by omega)
              rw [bv_done _ _ _ (by omega), sev_g S k (by omega)] at hc
              have HS : Hid (anyTo (S.getD 3 0) (k + 1) = (anyTo (S.getD 3 0) k || bitB (S.getD 3 0) k)) := anyTo_succ _ _
              generalize S.getD 3 0 = x at *
              cases hv : bitB x k
              · rw [hv] at hc
                have HV : Hid (bitB x k = false) := hv
                clear hv
                go_wp2
                go_round
                case rel => exact ⟨k + 1, by omega, by go_num, by rw [HS.out, HV.out, Bool.or_false]⟩
                case measure => simp [intOf]; omega
              · rw [hv] at hc
                have HV : Hid (bitB x k = true) := hv
                clear hv
                go_wp2
                go_round
                case rel => exact ⟨k + 1, by omega, by go_num, by rw [HS.out, HV.out, Bool.or_true]⟩
                case measure => simp [intOf]; omega
            · obtain rfl : k = m + 1 := by omega
              go_wp2
              refine wp_region_quiet_below (by kernel_rfl) (by kernel_rfl) ?_
              repeat (first | (refine wpQuiet_load_row (by rfl) 48 _ rfl _ rfl _ _ _ _ (block_regrown su) Try.underlying48 rfl (hi48 S HL.out) (fun K hK => ?_); simp [Act.put]; refine hK _ ?_; clear hK K) | go_big_quiet_step ((first | (go_at_call 20; exact Calls.regrown_of (zzq_any _ _ _ _ _ _ _ _)) | (go_at_call 27; exact Calls.regrown_of (may_sev _ _ _ _ _ _ _ _ HL.out HB.out hm7)))) | quiet_step ((first | (go_at_call 20; exact Calls.regrown_of (zzq_any _ _ _ _ _ _ _ _)) | (go_at_call 27; exact Calls.regrown_of (may_sev _ _ _ _ _ _ _ _ HL.out HB.out hm7)))))
              refine wpQuiet_nil ?_
              intro wq hw'
              obtain ⟨⟨dq, osq⟩, hw''⟩ := hw'
              have bel : Below w.heap.size w wq := by rw [hw'']; exact D.bel.trans ((below_regrown _ _ _).mono D.bel.size)
              clear hw''
              go_wp2
              go_ret
              exact ⟨rfl, bel⟩
        · have k2b : (kd == 2) = false := by simpa using k2
          have k3b : (kd == 3) = false := by simpa using k3
          have hps : p0 ≤ 511 ∧ p1 ≤ 511 ∧ p2 ≤ 511 ∧ p3 ≤ 511 := by
            have := hd.out
            unfold domB at this
            rw [if_neg k2, if_neg k3] at this
            by_cases h : kd = 0 ∨ kd = 1
            · rw [if_pos h] at this; simpa using this
            · rw [if_neg h] at this; cases this
          obtain ⟨e0, e1, e2, e3⟩ := hps
          have HP : Hid (∀ k : Nat, k < 4 → ∃ q : Int, 0 ≤ q ∧ q ≤ 511 ∧ (#[Value.int .u16 p0, .int .u16 p1, .int .u16 p2, .int .u16 p3])[k]? = some (Value.int .u16 q) ∧ prTo S [p0, p1, p2, p3] (k + 1) = (prTo S [p0, p1, p2, p3] k && prB S q)) := fun k hk => probe_cell p0 p1 p2 p3 S k hk d0 e0 d1 e1 d2 e2 d3 e3
          clear k2 k3
          go_wp2
          go_loop [15, 17] (fun want ii => ∃ k : Nat, k ≤ 4 ∧ ii = .int .i64 k ∧ want = .bool (prTo S [p0, p1, p2, p3] k)) (fun _ ii => 4 - (intOf ii).toNat)
          case atStart => exact ⟨0, by omega, rfl, by simp [prTo]⟩
          case round =>
            obtain ⟨k, hk, rfl, rfl⟩ := hrel
            by_cases hk4 : k < 4
            · obtain ⟨q, q0, q1, hq, hs⟩ := HP.out k hk4
              have HS : Hid (prTo S [p0, p1, p2, p3] (k + 1) = (prTo S [p0, p1, p2, p3] k && prB S q)) := hs
              have hcp : wr.cell? ⟨w.heap.size, k, none⟩ = some (.int .u16 q) := by rw [cell_of_row _ _ _ _ _ _ pr0]; exact hq
              have hc := D.fi q.toNat (by omega)
              rw [bv_done _ _ _ (by omega), prB_g S q q0] at hc
              clear hs hq
              cases hv : prB S q
              · rw [hv] at hc
                have HV : Hid (prB S q = false) := hv
                clear hv
                go_wp2
                go_round
                case rel => exact ⟨k + 1, by omega, by go_num, by rw [HS.out, HV.out, Bool.and_false]⟩
                case measure => simp [intOf]; omega
              · rw [hv] at hc
                have HV : Hid (prB S q = true) := hv
                clear hv
                go_wp2
                go_round
                case rel => exact ⟨k + 1, by omega, by go_num, by rw [HS.out, HV.out, Bool.and_true]⟩
                case measure => simp [intOf]; omega
            · obtain rfl : k = 4 := by omega
              go_wp2
              refine wp_region_quiet_below (by kernel_rfl) (by kernel_rfl) ?_
              repeat (first | (refine wpQuiet_load_row (by rfl) 48 _ rfl _ rfl _ _ _ _ (block_regrown su) Try.underlying48 rfl (hi48 S HL.out) (fun K hK => ?_); simp [Act.put]; refine hK _ ?_; clear hK K) | go_big_quiet_step ((first | (go_at_call 20; exact Calls.regrown_of (zzq_any _ _ _ _ _ _ _ _)) | (go_at_call 27; exact Calls.regrown_of (may_probes _ _ _ _ _ _ _ _ _ HL.out HB.out k2b k3b d0 e0 d1 e1 d2 e2 d3 e3)))) | quiet_step ((first | (go_at_call 20; exact Calls.regrown_of (zzq_any _ _ _ _ _ _ _ _)) | (go_at_call 27; exact Calls.regrown_of (may_probes _ _ _ _ _ _ _ _ _ HL.out HB.out k2b k3b d0 e0 d1 e1 d2 e2 d3 e3)))))
              refine wpQuiet_nil ?_
              intro wq hw'
              obtain ⟨⟨dq, osq⟩, hw''⟩ := hw'
              have bel : Below w.heap.size w wq := by rw [hw'']; exact D.bel.trans ((below_regrown _ _ _).mono D.bel.size)
              clear hw''
              go_wp2
              go_ret
              exact ⟨rfl, bel⟩

/-- a query outside its domain: true at once -/
theorem walk_out (kd n p0 p1 p2 p3 : Int) (S : List Int) (w : World) (hd : Hid (domB kd n p0 p1 p2 p3 = false)) :
    Calls Try.prog 8 #[.int .i64 kd, .int .i64 n, .agg #[.int .u16 p0, .int .u16 p1, .int .u16 p2, .int .u16 p3], .agg (arr .u8 S)] w fun e w' => e = .returned (.bool true) ∧ Below w.heap.size w w' := by
  go_enter Try.func8, Try.ntmps8
  go_wp2_with (go_at_call 23; refine (dom_any _ _ _ _ _ _ _).mono ?_; rintro e w1 ⟨rfl, hb⟩; rw [hd.out])
  go_ret
  exact ⟨rfl, (((Below.refl _ _).alloc (Nat.le_refl _) _).alloc (by simp) _).trans (hb.mono (by simp; omega))⟩

theorem walk_may (kd n p0 p1 p2 p3 : Int) (S : List Int) (w : World) (hS : S.length = 68) (hbd : ∀ i, 0 ≤ S.getD i 0 ∧ S.getD i 0 ≤ 255) (d0 : 0 ≤ p0) (d1 : 0 ≤ p1) (d2 : 0 ≤ p2) (d3 : 0 ≤ p3) :
    Calls Try.prog 8 #[.int .i64 kd, .int .i64 n, .agg #[.int .u16 p0, .int .u16 p1, .int .u16 p2, .int .u16 p3], .agg (arr .u8 S)] w fun e w' => e = .returned (.bool true) ∧ Below w.heap.size w w' := by
  cases hd : domB kd n p0 p1 p2 p3
  · exact walk_out kd n p0 p1 p2 p3 S w hd
  · exact walk_in kd n p0 p1 p2 p3 S w hS hbd d0 d1 d2 d3 hd

end Go.Proofs.Qxb6601108a
