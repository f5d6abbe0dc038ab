/-
  zzClosingFitsB1 (8): the parentheses are balanced and the table is right.
-/
import Derived.Test.Qxb6605218aBase
namespace Go.Proofs.Qxb6605218a
open Go.RowKit
set_option linter.unusedVariables false

/-- the token at k is this mark (k within the list) -/
def mkB (ks : List Int) (ts : List ByteArray) (k : Nat) (m : List UInt8) : Bool := ks.getD k 0 == 4 && (ts.getD k ByteArray.empty).toList == m

/-- the parentheses from k on, f tokens: balanced against the stack st, and the table right at each -/
def fitF (ks : List Int) (ts : List ByteArray) (cs : List Int) (nc : Nat) : Nat → Nat → List Nat → Bool
  | 0, _, st => st.isEmpty
  | f + 1, k, st =>
    if mkB ks ts k [40] then fitF ks ts cs nc f (k + 1) (k :: st)
    else if mkB ks ts k [41] then
      match st with
      | [] => false
      | o :: st' => if o < nc ∧ cs.getD o 0 = k then fitF ks ts cs nc f (k + 1) st' else false
    else fitF ks ts cs nc f (k + 1) st

section
variable (ks : List Int) (ts : List ByteArray) (cs : List Int) (nc f k : Nat) (st : List Nat)
theorem fitF_open (h : mkB ks ts k [40] = true) : fitF ks ts cs nc (f + 1) k st = fitF ks ts cs nc f (k + 1) (k :: st) := by rw [fitF.eq_def]; simp only; rw [if_pos h]
theorem fitF_other (h : mkB ks ts k [40] = false) (h2 : mkB ks ts k [41] = false) : fitF ks ts cs nc (f + 1) k st = fitF ks ts cs nc f (k + 1) st := by rw [fitF.eq_def]; simp only; rw [if_neg (by rw [h]; decide), if_neg (by rw [h2]; decide)]
theorem fitF_nil (h : mkB ks ts k [40] = false) (h2 : mkB ks ts k [41] = true) : fitF ks ts cs nc (f + 1) k [] = false := by rw [fitF.eq_def]; simp only; rw [if_neg (by rw [h]; decide), if_pos h2]
theorem fitF_ok (o : Nat) (h : mkB ks ts k [40] = false) (h2 : mkB ks ts k [41] = true) (h3 : o < nc ∧ cs.getD o 0 = k) : fitF ks ts cs nc (f + 1) k (o :: st) = fitF ks ts cs nc f (k + 1) st := by rw [fitF.eq_def]; simp only; rw [if_neg (by rw [h]; decide), if_pos h2, if_pos h3]
theorem fitF_bad (o : Nat) (h : mkB ks ts k [40] = false) (h2 : mkB ks ts k [41] = true) (h3 : ¬ (o < nc ∧ cs.getD o 0 = k)) : fitF ks ts cs nc (f + 1) k (o :: st) = false := by rw [fitF.eq_def]; simp only; rw [if_neg (by rw [h]; decide), if_pos h2, if_neg h3]
theorem fitF_zero : fitF ks ts cs nc 0 k st = st.isEmpty := by rw [fitF.eq_def]
end

theorem make_stack (n : Nat) (h : n ≤ 1048576) (w : World) :
    (Instr.makeSlice 22 (.int .i64 0) (.int .i64 (n : Int))).run Try.prog w = .ok (.slice (some ⟨w.heap.size, 0, none⟩) 0 n) (w.alloc (.cells (madeCells #[.int .i64 0] n) 3)) := by
  obtain ⟨i, hi, hzz⟩ := Option.map_eq_some_iff.1 info3
  simp only [Prod.mk.injEq] at hzz
  obtain ⟨hz, hs, hb⟩ := hzz
  have hr := run_make (P := Try.prog) w 22 3 i _ Try.underlying22 hi hz .i64 .i64 0 n (by omega) (by omega) (by rw [hb]; omega) (by omega)
  simp only [Int.toNat_natCast, hs, Nat.mul_one] at hr
  exact hr

/-- the stack in its row: the first cells of block g, bottom first -/
def Stk (B : Nat) (w : World) (g n : Nat) (st : List Nat) : Prop := ∃ f, Own B w g n f ∧ ∀ i, i < st.length → f i = .int .i64 ((st.reverse.getD i 0 : Nat) : Int)

theorem Stk.cell {B : Nat} {w : World} {g n : Nat} {st : List Nat} (h : Stk B w g n st) (i : Nat) (hi : i < n) : (∃ v, w.cell? ⟨g, i, none⟩ = some v) ∧ w.frozen? ⟨g, i, none⟩ = false := by
  obtain ⟨f, O, _⟩ := h
  exact ⟨⟨_, O.cell i hi⟩, O.fz i⟩

theorem Stk.hi {B : Nat} {w : World} {g n : Nat} {st : List Nat} (h : Stk B w g n st) : g < w.heap.size := by
  obtain ⟨f, O, _⟩ := h
  exact O.hi

theorem Stk.push {B : Nat} {w : World} {g n : Nat} {st : List Nat} (h : Stk B w g n st) (k : Nat) (hl : st.length < n) (o : Obj) : Stk B ((w.setCell ⟨g, st.length, none⟩ (.int .i64 (k : Int))).alloc o) g n (k :: st) := by
  obtain ⟨f, O, hf⟩ := h
  refine ⟨_, (O.set st.length hl _).on ((Below.refl _ _).alloc (Nat.le_refl _) o), fun i hi => ?_⟩
  by_cases e : i = st.length
  · subst e
    rw [if_pos rfl]
    simp
  · rw [if_neg e, hf i (by simp at hi; omega)]
    have hi' : i < st.length := by simp at hi; omega
    simp [List.getElem?_append, hi']

theorem Stk.pop {B : Nat} {w : World} {g n : Nat} {o : Nat} {st : List Nat} (h : Stk B w g n (o :: st)) : Stk B w g n st := by
  obtain ⟨f, O, hf⟩ := h
  refine ⟨f, O, fun i hi => ?_⟩
  rw [hf i (by simp; omega)]
  simp [List.getElem?_append, hi]

theorem Stk.top {B : Nat} {w : World} {g n : Nat} {o : Nat} {st : List Nat} (h : Stk B w g n (o :: st)) (hn : st.length < n) : w.cell? ⟨g, st.length, none⟩ = some (.int .i64 (o : Int)) := by
  obtain ⟨f, O, hf⟩ := h
  rw [O.cell _ hn, hf _ (by simp)]
  simp

set_option maxHeartbeats 2000000 in
theorem fits_any (ks : List Int) (ts : List ByteArray) (cs : List Int) (a a2 a3 : Option Addr) (n cap cap2 nc cap3 : Nat) (w : World) (hm : n ≤ 1048576) (hm3 : nc ≤ 1048576) (V : SV w a n (iv ks)) (V2 : SV w a2 n (sv ts)) (V3 : SV w a3 nc (iv cs)) :
    Calls Try.prog 8 #[.slice a n cap, .slice a2 n cap2, .slice a3 nc cap3] w fun e w' => e = .returned (.bool (fitF ks ts cs nc n 0 [])) ∧ Below w.heap.size w w' := by
  have HV : Hid (SV w a n (iv ks)) := V
  have HV2 : Hid (SV w a2 n (sv ts)) := V2
  have HV3 : Hid (SV w a3 nc (iv cs)) := V3
  clear V V2 V3
  have hmk := make_stack n hm
  go_enter Try.func8, Try.ntmps8
  go_wp2
  have O0 : Stk w.heap.size (w.alloc (.cells (madeCells #[.int .i64 0] n) 3)) w.heap.size n [] := ⟨_, own_made w (.int .i64 0) n 3, fun i hi => by simp at hi⟩
  clear hmk
  go_loopw [7, 8, 9] (fun s kk _ wr => ∃ (k : Nat) (st : List Nat), k ≤ n ∧ kk = .int .i64 k ∧ s = .slice (some ⟨w.heap.size, 0, none⟩) st.length n ∧ st.length ≤ k ∧ (∀ o ∈ st, o < k) ∧ Stk w.heap.size wr w.heap.size n st ∧ Below w.heap.size w wr ∧ Hid (fitF ks ts cs nc n 0 [] = fitF ks ts cs nc (n - k) k st)) (fun _ kk _ _ => n - (intOf kk).toNat)
  case atStart => exact ⟨0, [], by omega, rfl, rfl, Nat.le_refl _, by simp, O0, (Below.refl _ _).alloc (Nat.le_refl _) _, rfl⟩
  case round =>
    clear O0
    obtain ⟨k, st, hk, rfl, rfl, hd, hst, O, hb, HF⟩ := hrel
    have HST : Hid (∀ o ∈ st, o < k) := hst
    clear hst
    by_cases hlt : k < n
    · obtain ⟨b, off, ea, hc⟩ := (HV.out).at k hlt
      obtain ⟨b2, off2, ea2, hc2⟩ := (HV2.out).at k hlt
      have hbl := block_lt_of_cell hc
      have hbl2 := block_lt_of_cell hc2
      simp only at hbl hbl2
      subst ea ea2
      replace hc : wr.cell? ⟨b, off + k, none⟩ = some (iv ks k) := by rw [hb.cell (show (⟨b, off + k, none⟩ : Addr).block < _ from hbl)]; exact hc
      replace hc2 : wr.cell? ⟨b2, off2 + k, none⟩ = some (sv ts k) := by rw [hb.cell (show (⟨b2, off2 + k, none⟩ : Addr).block < _ from hbl2)]; exact hc2
      have hstep : n - k = (n - (k + 1)) + 1 := by omega
      rw [hstep] at HF
      clear hstep
      unfold iv at hc
      unfold sv at hc2
      by_cases h4 : ks.getD k 0 = 4
      · have h4b : (ks.getD k 0 != 4) = false := by simpa using h4
        cases h40 : ((ts.getD k ByteArray.empty).toList == [40])
        · have m40 : mkB ks ts k [40] = false := by unfold mkB; rw [h40, Bool.and_false]
          cases h41 : ((ts.getD k ByteArray.empty).toList == [41])
          · have m41 : mkB ks ts k [41] = false := by unfold mkB; rw [h41, Bool.and_false]
            have HN : Hid (fitF ks ts cs nc n 0 [] = fitF ks ts cs nc (n - (k + 1)) (k + 1) st) := by
              show fitF ks ts cs nc n 0 [] = _
              rw [HF.out, fitF_other _ _ _ _ _ _ _ m40 m41]
            clear HF m40 m41 h4
            generalize ks.getD k 0 = x at *
            generalize ts.getD k ByteArray.empty = y at *
            go_wp2
            go_roundw
            case rel => exact ⟨k + 1, st, by omega, by go_num, rfl, by omega, fun o ho => Nat.lt_succ_of_lt (HST.out o ho), O, hb, HN⟩
            case measure => simp [intOf]; omega
          · have m41 : mkB ks ts k [41] = true := by unfold mkB; rw [h41, h4]; rfl
            cases st with
            | nil =>
              have HN : Hid (fitF ks ts cs nc n 0 [] = false) := by
                show fitF ks ts cs nc n 0 [] = _
                rw [HF.out, fitF_nil _ _ _ _ _ _ m40 m41]
              clear HF m40 m41 h4
              generalize ks.getD k 0 = x at *
              generalize ts.getD k ByteArray.empty = y at *
              go_wp2
              go_ret
              exact ⟨by rw [HN.out]; rfl, hb⟩
            | cons o st =>
              have hl : ((o :: st).length : Int) = (st.length : Int) + 1 := by simp
              have hd' : st.length + 1 ≤ k := by simpa using hd
              have hok := HST.out o (by simp)
              have hl0 : (((st.length : Int) + 1) == 0) = false := by simp; omega
              have ht := O.top (by omega)
              by_cases hnc : o < nc
              · obtain ⟨b3, off3, ea3, hc3⟩ := (HV3.out).at o hnc
                have hbl3 := block_lt_of_cell hc3
                simp only at hbl3
                subst ea3
                replace hc3 : wr.cell? ⟨b3, off3 + o, none⟩ = some (iv cs o) := by rw [hb.cell (show (⟨b3, off3 + o, none⟩ : Addr).block < _ from hbl3)]; exact hc3
                unfold iv at hc3
                by_cases he : cs.getD o 0 = k
                · have heb : (cs.getD o 0 != (k : Int)) = false := by simpa using he
                  have HN : Hid (fitF ks ts cs nc n 0 [] = fitF ks ts cs nc (n - (k + 1)) (k + 1) st) := by
                    show fitF ks ts cs nc n 0 [] = _
                    rw [HF.out, fitF_ok _ _ _ _ _ _ _ _ m40 m41 ⟨hnc, he⟩]
                  clear HF m40 m41 h4 he
                  generalize ks.getD k 0 = x at *
                  generalize ts.getD k ByteArray.empty = y at *
                  generalize cs.getD o 0 = z at *
                  go_wp2
                  go_roundw
                  case rel => exact ⟨k + 1, st, by omega, by go_num, rfl, by omega, fun o ho => Nat.lt_succ_of_lt (HST.out o (List.mem_cons_of_mem _ ho)), O.pop, hb, HN⟩
                  case measure => simp [intOf]; omega
                · have heb : (cs.getD o 0 != (k : Int)) = true := by simpa using he
                  have HN : Hid (fitF ks ts cs nc n 0 [] = false) := by
                    show fitF ks ts cs nc n 0 [] = _
                    rw [HF.out, fitF_bad _ _ _ _ _ _ _ _ m40 m41 (fun h => he h.2)]
                  clear HF m40 m41 h4 he
                  generalize ks.getD k 0 = x at *
                  generalize ts.getD k ByteArray.empty = y at *
                  generalize cs.getD o 0 = z at *
                  go_wp2
                  go_ret
                  exact ⟨by rw [HN.out]; rfl, hb⟩
              · have HN : Hid (fitF ks ts cs nc n 0 [] = false) := by
                  show fitF ks ts cs nc n 0 [] = _
                  rw [HF.out, fitF_bad _ _ _ _ _ _ _ _ m40 m41 (fun h => hnc h.1)]
                clear HF m40 m41 h4
                generalize ks.getD k 0 = x at *
                generalize ts.getD k ByteArray.empty = y at *
                go_wp2
                go_ret
                exact ⟨by rw [HN.out]; rfl, hb⟩
        · have m40 : mkB ks ts k [40] = true := by unfold mkB; rw [h40, h4]; rfl
          have HN : Hid (fitF ks ts cs nc n 0 [] = fitF ks ts cs nc (n - (k + 1)) (k + 1) (k :: st)) := by
            show fitF ks ts cs nc n 0 [] = _
            rw [HF.out, fitF_open _ _ _ _ _ _ _ m40]
          obtain ⟨⟨v0, hv0⟩, hvf⟩ := O.cell st.length (by omega)
          have hst2 : (st.length : Int) + 1 ≤ n := by omega
          have hgl := O.hi
          clear HF m40 h4
          generalize ks.getD k 0 = x at *
          generalize ts.getD k ByteArray.empty = y at *
          go_wp2
          go_roundw
          case rel =>
            refine ⟨k + 1, k :: st, by omega, by go_num, rfl, by simp; omega, fun o ho => ?_, O.push k (by omega) _, (hb.setCell (Nat.le_refl _) _).alloc (by simp; omega) _, HN⟩
            rcases List.mem_cons.1 ho with rfl | ho
            · omega
            · exact Nat.lt_succ_of_lt (HST.out o ho)
          case measure => simp [intOf]; omega
      · have h4b : (ks.getD k 0 != 4) = true := by simpa using h4
        have h4c : (ks.getD k 0 == 4) = false := by simpa using h4
        have m40 : mkB ks ts k [40] = false := by unfold mkB; rw [h4c]; rfl
        have m41 : mkB ks ts k [41] = false := by unfold mkB; rw [h4c]; rfl
        have HN : Hid (fitF ks ts cs nc n 0 [] = fitF ks ts cs nc (n - (k + 1)) (k + 1) st) := by
          show fitF ks ts cs nc n 0 [] = _
          rw [HF.out, fitF_other _ _ _ _ _ _ _ m40 m41]
        clear HF m40 m41 h4 h4c
        generalize ks.getD k 0 = x at *
        generalize ts.getD k ByteArray.empty = y at *
        go_wp2
        go_roundw
        case rel => exact ⟨k + 1, st, by omega, by go_num, rfl, by omega, fun o ho => Nat.lt_succ_of_lt (HST.out o ho), O, hb, HN⟩
        case measure => simp [intOf]; omega
    · have e : n - k = 0 := by omega
      rw [e] at HF
      clear e
      have HE : Hid (fitF ks ts cs nc n 0 [] = ((st.length : Int) == 0)) := by
        show fitF ks ts cs nc n 0 [] = _
        rw [HF.out, fitF_zero]
        cases st <;> simp; omega
      clear HF
      go_wp2
      go_ret
      exact ⟨by rw [HE.out]; rfl, hb⟩

end Go.Proofs.Qxb6605218a
