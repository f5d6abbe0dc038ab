/-
  The walk of FnDatedReadsWrittenDay (5) within the range.
-/
import Derived.Test.Qxb6605273aDay
namespace Go.Proofs.Qxb6605273a
open Go.RowKit
set_option linter.unusedVariables false

/-- what is laid of the line and its two appends: text T, tail a' (n bytes f), in the world w3 -/
theorem line_facts (w1 w3 : World) (T : ByteArray) (sT : T.size = 10) (a' : Option Addr) (n N : Nat) (hN : N = 10 + n) (hn : n ≤ 1048576) (f : Nat → Nat) (b : Below w1.heap.size w1 w3)
    (ht : (a' = none ∧ n = 0) ∨ ∃ g, a' = some ⟨g, 0, none⟩ ∧ OwnB w1 g n f) :
    ∃ w5 w6, (Builtin.append_ #[25, 9] 25 #[.slice (some ⟨w3.heap.size, 0, none⟩) 0 N, .string T]).run Try.prog (w3.alloc (.cells (madeCells #[.int .u8 0] N) 5)) = .ok (.slice (some ⟨w3.heap.size, 0, none⟩) 10 N) w5 ∧
      (Builtin.append_ #[25, 25] 25 #[.slice (some ⟨w3.heap.size, 0, none⟩) 10 N, .slice a' n n]).run Try.prog w5 = .ok (.slice (some ⟨w3.heap.size, 0, none⟩) N N) w6 ∧
      OwnB w6 w3.heap.size N (fun i => if i < 10 then at_ T i else f (i - 10)) ∧ Below w3.heap.size w3 w6 := by
  have O4 := ownB_made w3 N 5
  have B4 := (Below.refl w3.heap.size w3).alloc (Nat.le_refl _) (.cells (madeCells #[.int .u8 0] N) 5)
  obtain ⟨w5, ha1, O5, B5, z5⟩ := app_src _ w3.heap.size 0 N _ O4 9 (.string T) T.size _ (src_text _ T) (by omega)
  have B5' := B4.trans B5
  have ht5 : (a' = none ∧ n = 0) ∨ ∃ g, a' = some ⟨g, 0, none⟩ ∧ OwnB w5 g n f := by
    rcases ht with h | ⟨g, e, O⟩
    · exact .inl h
    · exact .inr ⟨g, e, (O.on b).on B5'⟩
  rw [sT] at ha1 O5
  obtain ⟨w6, ha2, O6, B6, z6⟩ := app_src w5 w3.heap.size 10 N _ O5 25 (.slice a' n n) n f (src_slice w5 a' n n f ht5) (by omega)
  rw [Nat.zero_add] at ha1
  rw [← hN] at ha2
  refine ⟨w5, w6, ha1, ha2, O6.congr (fun i hi => ?_), B5'.trans B6⟩
  by_cases h : i < 10
  · rw [if_pos h, if_neg (by omega), if_pos (by omega), if_pos h, Nat.sub_zero]
  · rw [if_neg h, if_pos (by omega), if_neg h]

/-- an append by its run equation -/
theorem wpList_append_run {P : Program} (w : World) {ops : Array Oper} {rest : List Oper} {o : Oper} {a : Act} {Q : Exit → Act → World → Prop}
    (hg : o.guard = none) (s x : Operand) (t tx : TypeId) (hop : o.op = Op.call { callee := Callee.builtin Builtin.append, args := #[s, x], argTypes := #[t, tx] }) (hty : o.type = t)
    (v u : Value) (hs : a.eval s = v) (hx : a.eval x = u) (v' : Value) (w' : World) (hrun : (Builtin.append_ #[t, tx] t #[v, u]).run P w = .ok v' w')
    (hK : wpList P ops Q rest (a.put o.dst v') w') : wpList P ops Q (o :: rest) a w := by
  refine wpList_plain hg fun K hK' => ?_
  unfold Oper.wp
  simp [execOp, hop, hty, resolve, invoke, builtin, hs, hx, hrun, Result.andThen]
  exact hK' _ _ hK

theorem bnext {a w w' : World} (h : Below a.heap.size a w) (k : Below w.heap.size w w') : Below a.heap.size a w' := h.trans (k.mono h.size)

set_option maxHeartbeats 4000000 in
theorem day_in (y m d : Nat) (a : Option Addr) (n cap : Nat) (f : Nat → Nat) (w : World) (hs : n ≤ maxLen) (hy : y ≤ 9999) (hm : m ≤ 99) (hd : d ≤ 99) (hna : a = none → n = 0 ∧ cap = 0) (hR : RB w a n f) :
    Calls Try.prog 5 #[.int .i64 y, .int .i64 m, .int .i64 d, .slice a n cap] w fun e w' => e = .returned (.bool true) ∧ Below w.heap.size w w' := by
  have HS : Hid (n ≤ maxLen) := hs
  clear hs
  have C := bytes10 y m d a n cap w HS.out
  have HA : Hid (a = none → n = 0 ∧ cap = 0) := hna
  have HR : Hid (RB w a n f) := hR
  clear hna hR
  have HL : Hid (Mon ⟨(monthL y m).toArray⟩ ↔ 1 ≤ m ∧ m ≤ 12) := mon_month y m hm
  have HM := fun w => month_any y m w hy hm
  obtain ⟨M, hM⟩ : ∃ M : ByteArray, M = ⟨(monthL y m).toArray⟩ := ⟨_, rfl⟩
  rw [← hM] at HM HL
  have sM : M.size = 7 := by rw [hM]; exact month_size y m
  have HMe : Hid (M = ⟨(monthL y m).toArray⟩) := hM
  clear hM
  go_enter Try.func5, Try.ntmps5
  go_wp2_with fail
  refine C.mono ?_
  clear C
  rintro e w ⟨(rfl | ⟨rfl, hsz⟩), rfl⟩
  · go_wp2
    go_ret
    exact ⟨rfl, Below.refl _ _⟩
  obtain ⟨N, hNe⟩ : ∃ N, N = 10 + n := ⟨_, rfl⟩
  have HN : Hid (N = 10 + n) := hNe
  have hNi : (10 : Int) + (n : Int) = (N : Int) := by omega
  have hN2 : N ≤ 2000000 := by omega
  have hN10 : 10 ≤ N := by omega
  have hmk := make_line N hN2
  clear hNe
  go_wp2_with (first
    | (at_builtin; refine wpList_append_run _ rfl (.tmp 69) (.tmp 70) 25 9 rfl rfl _ _ rfl rfl _ _ ha1 ?_)
    | (at_builtin; refine wpList_append_run _ rfl (.tmp 72) (.tmp 73) 25 25 rfl rfl _ _ rfl rfl _ _ ha2 ?_)
    | (go_at_call 12; refine (pad_ex d 2 w2 (by omega) (by omega)).mono ?_; rintro e w3 ⟨D, hD, sD, rfl, b3⟩;
       obtain ⟨T, hT⟩ : ∃ T, M ++ ⟨#[45]⟩ ++ D = T := ⟨_, rfl⟩;
       obtain ⟨sT, pT, xT, mT⟩ := day_facts y m d M D T HMe.out hD.out hT;
       obtain ⟨w5, w6, ha1, ha2, O6, B6⟩ := line_facts w1 w3 T sT a1 n N HN.out hsz f (b2.trans (b3.mono b2.size)) ht.out;
       have PT : Hid (Pat (at_ T) 10) := pT; have MT : Hid (∀ i, i < 7 → at_ T i = at_ M i) := mT; clear pT mT)
    | (go_at_call 9; refine (HM w1).mono ?_; rintro e w2 ⟨rfl, b2⟩)
    | (go_at_call 11; refine (clone_any a n cap f _ hsz HA.out HR.out).mono ?_; rintro e w1 ⟨a1, rfl, b1, ht0⟩; have ht := (show Hid _ from ht0); clear ht0))
  have PL : Pat (fun i => if i < 10 then at_ T i else f (i - 10)) 10 := fun i hi => by
    have := PT.out i hi
    simp only [if_pos hi]
    exact this
  have PL7 : Pat (fun i => if i < 10 then at_ T i else f (i - 10)) 7 := fun i hi => PL i (by omega)
  have C1 := fun w' (b : Below w6.heap.size w6 w') => zz_ok w3.heap.size N 10 _ T w' (O6.on b) hN10 (by omega) hN2 sT (fun i hi => if_pos hi) PL
  have C2 := fun w' (b : Below w6.heap.size w6 w') => zz_ok w3.heap.size N 7 _ M w' (O6.on b) (by omega) (by omega) hN2 sM (fun i hi => by rw [if_pos (by omega)]; exact MT.out i hi) PL7
  have BB : Below w.heap.size w w6 := (b1.trans ((b2.trans (b3.mono b2.size)).mono b1.size)).trans (B6.mono (Nat.le_trans b1.size (Nat.le_trans b2.size b3.size)))
  have BC : Below w1.heap.size w1 w6 := (b2.trans (b3.mono b2.size)).trans (B6.mono (Nat.le_trans b2.size b3.size))
  have O6' : Hid (OwnB w6 w3.heap.size N (fun i => if i < 10 then at_ T i else f (i - 10))) := O6
  clear ha1 ha2 hmk hT PL PL7 O6 PT MT HM b1 b2 b3 B6
  generalize w3.heap.size = g at *
  refine (C1 w6 (Below.refl _ _)).mono ?_
  rintro e w7 ⟨a2, rfl, b7, h2⟩
  have e10 : N - 10 = n := by have := HN.out; omega
  rw [e10] at h2 ⊢
  clear C1
  go_wp2_with fail
  refine (C2 w7 b7).mono ?_
  rintro e w8 ⟨a3, rfl, b8, h3⟩
  obtain rfl : a3 = some ⟨g, 7, none⟩ := by
    rcases h3 with h | h
    · omega
    · exact h
  clear C2 h3
  go_wp2_with fail
  refine (zz_bad g N N 10 w8).mono ?_
  rintro e w9 ⟨rfl, b9⟩
  have b69 : Below w6.heap.size w6 w9 := (b7.trans (b8.mono b7.size)).trans (b9.mono (Nat.le_trans b7.size b8.size))
  have O9 := O6'.out.on b69
  have R4 : Hid (RB w9 (some ⟨g, 0, none⟩) N _) := O9.rb 0 (by omega)
  have R3 : Hid (RB w9 (some ⟨g, 7, none⟩) (N - 7) _) := O9.rb 7 (by omega)
  have R1 : Hid (RB w9 a2 n f) := by
    rcases h2 with h | rfl
    · exact .inl h
    · have := O9.rb 10 (by omega)
      rw [e10] at this
      exact this.congr (fun i hi => by rw [if_neg (by omega)]; congr 1; omega)
  have R2 : Hid (RB w9 a1 n f) := by
    rcases ht.out with ⟨_, h⟩ | ⟨g', rfl, O⟩
    · exact .inl h
    · exact (((O.on BC).on b69).rb 0 (by omega)).congr (fun i hi => by rw [Nat.zero_add])
  have b9' : Below w.heap.size w w9 := BB.trans (b69.mono BB.size)
  clear O9 h2 ht b69 b7 b8 b9 BB BC O6' e10
  by_cases h1 : 1 ≤ m
  · by_cases h2 : m ≤ 12
    · go_wp2_with (first
      | (go_at_call 14; refine (same_any (some ⟨g, 0, none⟩) (some ⟨g, 0, none⟩) N N N _ _ w12 hN2 ((R4.out.on b10).on b11 |>.on b12) ((R4.out.on b10).on b11 |>.on b12) (fun _ _ => rfl)).mono ?_; rintro e w13 ⟨rfl, b13⟩)
      | (go_at_call 7; refine (zzis_any M w11).mono ?_; rintro e w12 ⟨r, hr, rfl, b12⟩; obtain rfl : r = true := hr.out.2 (HL.out.2 ⟨h1, h2⟩))
      | (go_at_call 14; refine (same_any (some ⟨g, 7, none⟩) (some ⟨g, 7, none⟩) (N - 7) (N - 7) (N - 7) _ _ w10 (by omega) (R3.out.on b10) (R3.out.on b10) (fun _ _ => rfl)).mono ?_; rintro e w11 ⟨rfl, b11⟩)
      | (go_at_call 14; refine (same_any a2 a1 n n n _ _ w9 (by omega) R1.out R2.out (fun _ _ => rfl)).mono ?_; rintro e w10 ⟨rfl, b10⟩))
      go_ret
      exact ⟨by first | rfl | (simp; omega) | simp, bnext (bnext (bnext (bnext b9' b10) b11) b12) b13⟩
    · go_wp2_with (first
      | (go_at_call 14; refine (same_any (some ⟨g, 0, none⟩) (some ⟨g, 0, none⟩) N N N _ _ w12 hN2 ((R4.out.on b10).on b11 |>.on b12) ((R4.out.on b10).on b11 |>.on b12) (fun _ _ => rfl)).mono ?_; rintro e w13 ⟨rfl, b13⟩)
      | (go_at_call 7; refine (zzis_any M w11).mono ?_; rintro e w12 ⟨r, hr, rfl, b12⟩; obtain rfl : r = false := by (cases r; rfl; exact absurd (HL.out.1 (hr.out.1 rfl)).2 h2))
      | (go_at_call 14; refine (same_any (some ⟨g, 7, none⟩) (some ⟨g, 7, none⟩) (N - 7) (N - 7) (N - 7) _ _ w10 (by omega) (R3.out.on b10) (R3.out.on b10) (fun _ _ => rfl)).mono ?_; rintro e w11 ⟨rfl, b11⟩)
      | (go_at_call 14; refine (same_any a2 a1 n n n _ _ w9 (by omega) R1.out R2.out (fun _ _ => rfl)).mono ?_; rintro e w10 ⟨rfl, b10⟩))
      go_ret
      exact ⟨by first | rfl | (simp; omega) | simp, bnext (bnext (bnext (bnext b9' b10) b11) b12) b13⟩
  · go_wp2_with (first
    | (go_at_call 14; refine (same_any (some ⟨g, 0, none⟩) (some ⟨g, 0, none⟩) N N N _ _ w12 hN2 ((R4.out.on b10).on b11 |>.on b12) ((R4.out.on b10).on b11 |>.on b12) (fun _ _ => rfl)).mono ?_; rintro e w13 ⟨rfl, b13⟩)
    | (go_at_call 7; refine (zzis_any M w11).mono ?_; rintro e w12 ⟨r, hr, rfl, b12⟩; obtain rfl : r = false := by (cases r; rfl; exact absurd (HL.out.1 (hr.out.1 rfl)).1 h1))
    | (go_at_call 14; refine (same_any (some ⟨g, 7, none⟩) (some ⟨g, 7, none⟩) (N - 7) (N - 7) (N - 7) _ _ w10 (by omega) (R3.out.on b10) (R3.out.on b10) (fun _ _ => rfl)).mono ?_; rintro e w11 ⟨rfl, b11⟩)
    | (go_at_call 14; refine (same_any a2 a1 n n n _ _ w9 (by omega) R1.out R2.out (fun _ _ => rfl)).mono ?_; rintro e w10 ⟨rfl, b10⟩))
    go_ret
    exact ⟨by first | rfl | (simp; omega) | simp, bnext (bnext (bnext (bnext b9' b10) b11) b12) b13⟩

theorem walk_day (y m d : Int) (a : Option Addr) (n cap : Nat) (f : Nat → Nat) (w : World) (hs : n ≤ maxLen) (hna : a = none → n = 0 ∧ cap = 0) (hR : RB w a n f) :
    Calls Try.prog 5 #[.int .i64 y, .int .i64 m, .int .i64 d, .slice a n cap] w fun e w' => e = .returned (.bool true) ∧ Below w.heap.size w w' := by
  by_cases h : y < 0 ∨ 9999 < y ∨ m < 0 ∨ 99 < m ∨ d < 0 ∨ 99 < d
  · exact day_out y m d a n cap w hs h
  · obtain ⟨y', rfl⟩ : ∃ n : Nat, y = n := ⟨y.toNat, by omega⟩
    obtain ⟨m', rfl⟩ : ∃ n : Nat, m = n := ⟨m.toNat, by omega⟩
    obtain ⟨d', rfl⟩ : ∃ n : Nat, d = n := ⟨d.toNat, by omega⟩
    exact day_in y' m' d' a n cap f w hs (by omega) (by omega) (by omega) hna hR

end Go.Proofs.Qxb6605273a
