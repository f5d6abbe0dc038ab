/-
  upper (35): a text with its ASCII letters in upper case.
-/
import Derived.Test.Qxb6605218aModel
import Derived.Lib.ConvBytes
namespace Go.Proofs.Qxb6605218a
open Go.RowKit
set_option linter.unusedVariables false

/-- a byte in upper case -/
def up (c : UInt8) : UInt8 := if 97 ≤ c.toNat ∧ c.toNat ≤ 122 then UInt8.ofNat (c.toNat - 32) else c
/-- a text in upper case -/
def upBA (s : ByteArray) : ByteArray := ⟨(s.data.toList.map up).toArray⟩

theorem up_lower (c : UInt8) (h : 97 ≤ c.toNat ∧ c.toNat ≤ 122) : ((up c).toNat : Int) = (c.toNat : Int) - 97 + 65 := by
  unfold up
  rw [if_pos h]
  have : (UInt8.ofNat (c.toNat - 32)).toNat = (c.toNat - 32) % 256 := by simp
  rw [this]
  omega
theorem up_other (c : UInt8) (h : ¬ (97 ≤ c.toNat ∧ c.toNat ≤ 122)) : up c = c := by unfold up; rw [if_neg h]

/-- a row of bytes of a call's own -/
structure OwnB (w : World) (g n : Nat) (f : Nat → Nat) : Prop where
  hi : g < w.heap.size
  cell : ∀ i, i < n → w.cell? ⟨g, i, none⟩ = some (.int .u8 (f i : Int))
  fz : ∀ i, i < n → w.frozen? ⟨g, i, none⟩ = false

theorem OwnB.set {w : World} {g n : Nat} {f : Nat → Nat} (h : OwnB w g n f) (k x : Nat) (hk : k < n) : OwnB (w.setCell ⟨g, k, none⟩ (.int .u8 (x : Int))) g n (fun i => if i = k then x else f i) := by
  refine ⟨by simpa using h.hi, fun i hi => ?_, fun i hi => by rw [World.frozen?_setCell]; exact h.fz i hi⟩
  by_cases e : i = k
  · subst e
    rw [World.cell?_setCell_same _ _ _ (h.cell i hi), if_pos rfl]
  · rw [World.cell?_setCell_other _ _ _ _ (by simp <;> omega), if_neg e]
    exact h.cell i hi

theorem OwnB.congr {w : World} {g n : Nat} {f f' : Nat → Nat} (h : OwnB w g n f) (e : ∀ i, i < n → f i = f' i) : OwnB w g n f' :=
  ⟨h.hi, fun i hi => by rw [← e i hi]; exact h.cell i hi, h.fz⟩

theorem ownB_bytes (w : World) (s : ByteArray) : OwnB (Lib.bytesWorld w 5 s) w.heap.size s.size (fun i => (s.data.toList.getD i 0).toNat) := by
  refine ⟨by rw [Lib.bytesWorld_size]; omega, fun i hi => Lib.bytesWorld_cell w 5 s i hi, fun i hi => ?_⟩
  have hsz : s.size ≤ (Lib.bytesCells w 5 s).size := by simp [Lib.bytesCells]
  simp [World.frozen?, Lib.bytesWorld_at_new]
  omega

theorem bytes_below (w : World) (s : ByteArray) : Below w.heap.size w (Lib.bytesWorld w 5 s) :=
  ⟨rfl, rfl, rfl, by rw [Lib.bytesWorld_size]; omega, fun k hk => Lib.bytesWorld_at_old w 5 s k hk⟩

set_option maxHeartbeats 1000000 in
theorem upper_any (s : ByteArray) (w : World) (hs : s.size ≤ 1048576) :
    Calls Try.prog 35 #[.string s] w fun e w' => e = .returned (.string (upBA s)) ∧ Below w.heap.size w w' := by
  have hconv := Lib.run_convert_string_bytes (P := Try.prog) w 9 55 5 s Try.underlying9 Try.underlying55 Try.underlying5
  go_enter Try.func35, Try.ntmps35
  go_wp2
  have O0 := ownB_bytes w s
  have B0 := bytes_below w s
  clear hconv
  generalize Lib.bytesWorld w 5 s = wb at *
  generalize grownCap w s.size 0 5 = cap at *
  go_loopw [10, 4, 5] (fun i _ _ wr => ∃ k : Nat, k ≤ s.size ∧ i = .int .i64 k ∧ Below w.heap.size w wr ∧ OwnB wr w.heap.size s.size (fun i => (if i < k then up (s.data.toList.getD i 0) else s.data.toList.getD i 0).toNat)) (fun i _ _ _ => s.size - (intOf i).toNat)
  case atStart => exact ⟨0, by omega, rfl, B0, O0.congr (fun i _ => by simp)⟩
  case round =>
    clear O0 B0
    obtain ⟨k, hk, rfl, hb, O⟩ := hrel
    by_cases hlt : k < s.size
    · have hc := O.cell k hlt
      have hf := O.fz k hlt
      rw [if_neg (by omega)] at hc
      have hx : (s.data.toList.getD k 0).toNat < 256 := UInt8.toNat_lt _
      generalize hxe : s.data.toList.getD k 0 = x at *
      have HX : Hid (s.data.toList.getD k 0 = x) := hxe
      clear hxe
      by_cases h1 : 97 ≤ x.toNat
      · by_cases h2 : x.toNat ≤ 122
        · have HU : Hid (((up x).toNat : Int) = (x.toNat : Int) - 97 + 65) := up_lower x ⟨h1, h2⟩
          generalize hn : x.toNat = nx at *
          have HNX : Hid (x.toNat = nx) := hn
          clear hn
          go_wp2
          go_roundw
          case rel =>
            refine ⟨k + 1, by omega, by go_num, hb.setCell (Nat.le_refl _) _, ?_⟩
            have O2 := O.set k (up x).toNat hlt
            rw [HU.out] at O2
            refine O2.congr (fun i _ => ?_)
            by_cases e : i = k
            · subst e; rw [if_pos rfl, if_pos (by omega), HX.out]
            · rw [if_neg e]
              have : (i < k + 1) = (i < k) := by rw [eq_iff_iff]; omega
              simp only [this]
          case measure => simp [intOf]; omega
        · have HU : Hid (up x = x) := up_other x (by omega)
          generalize hn : x.toNat = nx at *
          have HNX : Hid (x.toNat = nx) := hn
          clear hn
          go_wp2
          go_roundw
          case rel =>
            refine ⟨k + 1, by omega, by go_num, hb, O.congr (fun i _ => ?_)⟩
            by_cases e : i = k
            · subst e; rw [if_neg (by omega), if_pos (by omega), HX.out, HU.out]
            · have : (i < k + 1) = (i < k) := by rw [eq_iff_iff]; omega
              simp only [this]
          case measure => simp [intOf]; omega
      · have HU : Hid (up x = x) := up_other x (by omega)
        generalize hn : x.toNat = nx at *
        have HNX : Hid (x.toNat = nx) := hn
        clear hn
        go_wp2
        go_roundw
        case rel =>
          refine ⟨k + 1, by omega, by go_num, hb, O.congr (fun i _ => ?_)⟩
          by_cases e : i = k
          · subst e; rw [if_neg (by omega), if_pos (by omega), HX.out, HU.out]
          · have : (i < k + 1) = (i < k) := by rw [eq_iff_iff]; omega
            simp only [this]
        case measure => simp [intOf]; omega
    · have e : k = s.size := by omega
      have hback : (convert 55 9 (.slice (some ⟨w.heap.size, 0, none⟩) s.size cap)).run Try.prog wr = .ok (.string (upBA s)) wr := by
        have hl : (s.data.toList.map up).length = s.size := by simp
        have := run_convert_bytes_back (P := Try.prog) wr 55 9 5 ⟨w.heap.size, 0, none⟩ cap (s.data.toList.map up) Try.underlying55 Try.underlying5 Try.underlying9 (fun j hj => by
          rw [Go.WideShapes.add_plain, Nat.zero_add, O.cell j (by omega), if_pos (by omega)]
          simp at hj
          simp [hj])
        rw [hl] at this
        exact this
      clear e
      go_wp2
      go_ret
      exact ⟨rfl, hb⟩

end Go.Proofs.Qxb6605218a
