/-
  (*reader).fail (18), (*reader).dated (17), ZZDated (13).
-/
import Derived.Test.Qxb6605273aLine
namespace Go.Proofs.Qxb6605273a
open Go.RowKit
set_option linter.unusedVariables false

/-- a reader in block r: nothing behind the line, the line l, the flag b -/
structure Rd (w : World) (r : Nat) (l : Value) (b : Bool) : Prop where
  hi : r < w.heap.size
  c0 : w.cell? ⟨r, 0, none⟩ = some (.slice none 0 0)
  c1 : w.cell? ⟨r, 1, none⟩ = some l
  c2 : w.cell? ⟨r, 2, none⟩ = some (.bool b)
  f1 : w.frozen? ⟨r, 1, none⟩ = false
  f2 : w.frozen? ⟨r, 2, none⟩ = false

theorem rd_new (w : World) (l : Value) (b : Bool) : Rd (w.alloc (.cells #[.slice none 0 0, l, .bool b] 33)) w.heap.size l b :=
  ⟨by simp, by rw [World.cell?_alloc_at _ _ _ _ rfl]; rfl, by rw [World.cell?_alloc_at _ _ _ _ rfl]; rfl, by rw [World.cell?_alloc_at _ _ _ _ rfl]; rfl, by simp, by simp⟩

theorem Rd.line {w : World} {r : Nat} {l : Value} {b : Bool} (h : Rd w r l b) (l' : Value) : Rd (w.setCell ⟨r, 1, none⟩ l') r l' b :=
  ⟨by simpa using h.hi, by rw [World.cell?_setCell_other _ _ _ _ (by simp)]; exact h.c0, World.cell?_setCell_same _ _ _ h.c1, by rw [World.cell?_setCell_other _ _ _ _ (by simp)]; exact h.c2,
    by rw [World.frozen?_setCell]; exact h.f1, by rw [World.frozen?_setCell]; exact h.f2⟩

theorem Rd.flag {w : World} {r : Nat} {l : Value} {b : Bool} (h : Rd w r l b) (b' : Bool) : Rd (w.setCell ⟨r, 2, none⟩ (.bool b')) r l b' :=
  ⟨by simpa using h.hi, by rw [World.cell?_setCell_other _ _ _ _ (by simp)]; exact h.c0, by rw [World.cell?_setCell_other _ _ _ _ (by simp)]; exact h.c1, World.cell?_setCell_same _ _ _ h.c2,
    by rw [World.frozen?_setCell]; exact h.f1, by rw [World.frozen?_setCell]; exact h.f2⟩

theorem below_set (r i : Nat) (w : World) (v : Value) : Below r w (w.setCell ⟨r, i, none⟩ v) := (Below.refl r w).setCell (p := ⟨r, i, none⟩) (Nat.le_refl r) v

theorem fail_any (r : Nat) (l : Value) (b : Bool) (w : World) (R : Rd w r l b) :
    Calls Try.prog 18 #[.pointer (some ⟨r, 0, none⟩)] w fun e w' => e = .returned (.string ⟨#[]⟩) ∧ w' = w.setCell ⟨r, 2, none⟩ (.bool false) := by
  have h2 := R.c2
  have hf := R.f2
  go_enter Try.func18, Try.ntmps18
  go_wp2
  go_ret
  exact ⟨rfl, rfl⟩

/-- dated at a reader that has failed -/
theorem dated_bad (r g n cap k : Nat) (w : World) (R : Rd w r (.slice (some ⟨g, 0, none⟩) n cap) false) :
    Calls Try.prog 17 #[.pointer (some ⟨r, 0, none⟩), .int .i64 k] w fun e w' => e = .returned (.string ⟨#[]⟩) ∧ Below r w w' ∧ Rd w' r (.slice (some ⟨g, 0, none⟩) n cap) false := by
  have h2 := R.c2
  go_enter Try.func17, Try.ntmps17
  go_wp2_with (go_at_call 18; refine (fail_any r _ _ w R).mono ?_; rintro e w1 ⟨rfl, rfl⟩)
  go_ret
  exact ⟨rfl, below_set r 2 w _, R.flag false⟩

/-- what a written day looks like: '-' at 4 and 7, digits elsewhere -/
def Pat (f : Nat → Nat) (k : Nat) : Prop := ∀ i, i < k → ((i = 4 ∨ i = 7) → f i = 45) ∧ (i ≠ 4 → i ≠ 7 → Dg (f i))

/-- what dated leaves where it succeeds -/
def DOk (r g n k : Nat) (S : ByteArray) (w : World) (e : Ending) (w' : World) : Prop :=
  ∃ a', e = .returned (.string S) ∧ Below r w w' ∧ Rd w' r (.slice a' (n - k) (n - k)) true ∧ (n - k = 0 ∨ a' = some ⟨g, k, none⟩)

set_option maxHeartbeats 1000000 in
theorem dated_ok (r g n k : Nat) (f : Nat → Nat) (S : ByteArray) (w : World) (R : Rd w r (.slice (some ⟨g, 0, none⟩) n n) true) (O : OwnB w g n f) (hkn : k ≤ n) (hk10 : k ≤ 10) (hn : n ≤ 2000000) (hS : S.size = k) (hfS : ∀ i, i < k → f i = at_ S i) (P : Pat f k) :
    Calls Try.prog 17 #[.pointer (some ⟨r, 0, none⟩), .int .i64 k] w fun e w' => DOk r g n k S w e w' := by
  have HS : Hid (S.size = k) := hS
  have HF : Hid (∀ i, i < k → f i = at_ S i) := hfS
  have HP : Hid (Pat f k) := P
  clear hS hfS P
  have hback : (convert 25 9 (.slice (some ⟨g, 0, none⟩) k n)).run Try.prog w = .ok (.string S) w := by
    have hl : S.data.toList.length = k := by rw [Array.length_toList]; exact HS.out
    have := run_convert_bytes_back (P := Try.prog) w 25 9 5 ⟨g, 0, none⟩ n S.data.toList Try.underlying25 Try.underlying5 Try.underlying9 (fun j hj => by
      rw [Go.WideShapes.add_plain, Nat.zero_add, O.cell j (by omega), HF.out j (by omega)]
      unfold at_
      rw [List.getD_eq_getElem?_getD, List.getElem?_eq_getElem hj]
      rfl)
    rw [hl] at this
    rw [this]
  have h1 := R.c1
  have h2 := R.c2
  have f1 := R.f1
  go_enter Try.func17, Try.ntmps17
  go_wp2
  go_loop [32, 5, 6, 7] (fun i _ _ _ => ∃ j : Nat, j ≤ k ∧ i = .int .i64 j) (fun i _ _ _ => k - (intOf i).toNat)
  case atStart => exact ⟨0, by omega, rfl⟩
  case round =>
    obtain ⟨j, hj, rfl⟩ := hrel
    by_cases hlt : j < k
    · have hc := O.cell j (by omega)
      obtain ⟨p1, p2⟩ := HP.out j hlt
      by_cases h4 : j = 4
      · subst h4
        rw [p1 (.inl rfl)] at hc
        clear p1 p2
        go_wp2
        go_round
        case rel => exact ⟨5, by omega, rfl⟩
        case measure => simp [intOf]; omega
      · by_cases h7 : j = 7
        · subst h7
          rw [p1 (.inr rfl)] at hc
          clear p1 p2
          go_wp2
          go_round
          case rel => exact ⟨8, by omega, rfl⟩
          case measure => simp [intOf]; omega
        · obtain ⟨d1, d2⟩ := p2 h4 h7
          clear p1 p2
          have b4 : ((j : Int) == 4) = false := by simp; omega
          have b7 : ((j : Int) == 7) = false := by simp; omega
          generalize f j = x at *
          go_wp2
          exact ⟨⟨u4, _, _, _, .int .i64 ((j : Int) + 1), ⟨j + 1, by omega, by go_num⟩, rfl, rfl, rfl, rfl, rfl⟩, by simp [intOf]; omega⟩
    · obtain rfl : j = k := by omega
      by_cases hjn : j = n
      · subst hjn
        go_wp2
        go_ret
        exact ⟨_, rfl, below_set r 1 w _, by rw [Nat.sub_self]; exact R.line _, .inl (Nat.sub_self _)⟩
      · go_wp2
        go_ret
        exact ⟨_, rfl, below_set r 1 w _, R.line _, .inr rfl⟩

/-- four results (the kit has one, two and three) -/
theorem results_tmp4 {fn : Func} {t u v x : Tmp} (h : fn.results = #[.tmp t, .tmp u, .tmp v, .tmp x]) (tmps : Array Value) (P : Program) (w : World) :
    (results fn tmps).run P w = .ok (.tuple #[tmps.getD t undef, tmps.getD u undef, tmps.getD v undef, tmps.getD x undef]) w := by
  simp [results, h]

/-- what ZZDated answers where it succeeds -/
def ZOk (g n k : Nat) (S : ByteArray) (w : World) (e : Ending) (w' : World) : Prop :=
  ∃ a', e = .returned (.tuple #[.string S, .slice none 0 0, .slice a' (n - k) (n - k), .bool true]) ∧ Below w.heap.size w w' ∧ (n - k = 0 ∨ a' = some ⟨g, k, none⟩)

set_option maxHeartbeats 1000000 in
theorem zz_ok (g n k : Nat) (f : Nat → Nat) (S : ByteArray) (w : World) (O : OwnB w g n f) (hkn : k ≤ n) (hk10 : k ≤ 10) (hn : n ≤ 2000000) (hS : S.size = k) (hfS : ∀ i, i < k → f i = at_ S i) (P : Pat f k) :
    Calls Try.prog 13 #[.slice none 0 0, .slice (some ⟨g, 0, none⟩) n n, .bool true, .int .i64 k] w fun e w' => ZOk g n k S w e w' := by
  have B0 := (Below.refl w.heap.size w).alloc (Nat.le_refl _) (.cells #[.slice none 0 0, .slice (some ⟨g, 0, none⟩) n n, .bool true] 33)
  have C0 := dated_ok w.heap.size g n k f S _ (rd_new w (.slice (some ⟨g, 0, none⟩) n n) true) (O.on B0) hkn hk10 hn hS hfS P
  clear hS hfS P O
  go_enter Try.func13, Try.ntmps13
  go_wp2_with (go_at_call 17; refine C0.mono ?_; rintro e w1 ⟨a', rfl, b1, R, ha⟩; have r0 := R.c0; have r1 := R.c1; have r2 := R.c2; clear R C0; replace b1 := B0.trans b1; clear B0)
  go_quiet (fail)
  have B2 : Below w.heap.size w (w1.drewN nq) := b1.trans ((below_drewN w1 nq).mono b1.size)
  generalize w1.drewN nq = w3 at *
  go_wp2
  refine bodyPost_ret (results_tmp4 rfl _ _ _) rfl ?_
  exact ⟨_, rfl, B2, ha⟩

set_option maxHeartbeats 1000000 in
theorem zz_bad (g n cap k : Nat) (w : World) :
    Calls Try.prog 13 #[.slice none 0 0, .slice (some ⟨g, 0, none⟩) n cap, .bool false, .int .i64 k] w fun e w' => e = .returned (.tuple #[.string ⟨#[]⟩, .slice none 0 0, .slice (some ⟨g, 0, none⟩) n cap, .bool false]) ∧ Below w.heap.size w w' := by
  have B0 := (Below.refl w.heap.size w).alloc (Nat.le_refl _) (.cells #[.slice none 0 0, .slice (some ⟨g, 0, none⟩) n cap, .bool false] 33)
  have C0 := dated_bad w.heap.size g n cap k _ (rd_new w (.slice (some ⟨g, 0, none⟩) n cap) false)
  go_enter Try.func13, Try.ntmps13
  go_wp2_with (go_at_call 17; refine C0.mono ?_; rintro e w1 ⟨rfl, b1, R⟩; have r0 := R.c0; have r1 := R.c1; have r2 := R.c2; clear R C0; replace b1 := B0.trans b1; clear B0)
  go_quiet (fail)
  have B2 : Below w.heap.size w (w1.drewN nq) := b1.trans ((below_drewN w1 nq).mono b1.size)
  generalize w1.drewN nq = w3 at *
  go_wp2
  refine bodyPost_ret (results_tmp4 rfl _ _ _) rfl ?_
  exact ⟨rfl, B2⟩

end Go.Proofs.Qxb6605273a
