/-
  zzItoa walked: the decimal numeral of a positive number below 100000.
-/
import Derived.Test.Qxb6612236aDoorIndex
namespace Go.Proofs.Qxb6612236aDoor
open Go Go.RowKit
set_option linter.unusedVariables false

/-- The last j of 24 cells hold the last j digits of m. -/
def Dig (m j : Nat) (X : Array Value) : Prop := X.size = 24 ∧ ∀ t, t < j → X[23 - t]? = some (.int .u8 ((48 + (m / 10 ^ t) % 10 : Nat) : Int))

theorem dig_step {m j : Nat} {X : Array Value} (h : Dig m j X) (hj : j < 5) : Dig m (j + 1) (X.setIfInBounds (24 - j - 1) (.int .u8 (48 + ((m / 10 ^ j : Nat) : Int) % 10))) := by
  refine ⟨by rw [Array.size_setIfInBounds]; exact h.1, fun t ht => ?_⟩
  rcases Nat.lt_or_eq_of_le (Nat.le_of_lt_succ ht) with h3 | h3
  · rw [Array.getElem?_setIfInBounds_ne (by omega)]
    exact h.2 t h3
  · subst h3
    rw [show 24 - t - 1 = 23 - t by omega, Array.getElem?_setIfInBounds_self_of_lt (by rw [h.1]; omega)]
    congr 2

theorem dig_lt5 {m j : Nat} (h : m < 100000) (hj : j ≤ 5) (hz : m / 10 ^ j ≠ 0) : j < 5 := by
  rcases Nat.lt_or_eq_of_le hj with h3 | h3
  · exact h3
  · subst h3
    exact absurd (Nat.div_eq_of_lt h) hz

theorem div_step (m j : Nat) : m / 10 ^ j / 10 = m / 10 ^ (j + 1) := by rw [Nat.div_div_eq_div_mul, Nat.pow_succ]

theorem nd_of {m j : Nat} (h1 : 1 ≤ m) (hz : m / 10 ^ j = 0) (hl : j ≠ 0 → m / 10 ^ (j - 1) ≠ 0) : 1 ≤ j ∧ Lib.nDigits m = j := by
  have hj : j ≠ 0 := by rintro rfl; simp at hz; omega
  have hlt : m < 10 ^ j := (Nat.div_eq_zero_iff_lt (Nat.pow_pos (by decide))).1 hz
  have hge : 10 ^ (j - 1) ≤ m := by
    have := hl hj
    rcases Nat.lt_or_ge m (10 ^ (j - 1)) with h | h
    · exact absurd (Nat.div_eq_of_lt h) this
    · exact h
  have := Lib.nDigits_unique (j - 1) m hge (by rw [show j - 1 + 1 = j by omega]; exact hlt)
  omega

/-- The bytes that the last j cells hold are the numeral. -/
theorem dig_bytes {m j : Nat} {X : Array Value} (h : Dig m j X) (hn : Lib.nDigits m = j) (hj : j ≤ 5) (i : Nat) (hi : i < (Lib.decDigits m).length) : X[24 - j + i]? = some (.int .u8 (((Lib.decDigits m)[i]).toNat : Int)) := by
  have hl : (Lib.decDigits m).length = j := by rw [Lib.decDigits_length, hn]
  have e := h.2 (j - 1 - i) (by omega)
  rw [show 23 - (j - 1 - i) = 24 - j + i by omega] at e
  rw [e]
  congr 2
  have : (Lib.decDigits m)[i] = Lib.dg m (j - 1 - i) := by
    simp only [Lib.decDigits_eq, hn, List.getElem_map, List.getElem_range]
  rw [this, Lib.dg, toNat_dig _ (Nat.mod_lt _ (by decide))]

set_option maxHeartbeats 1000000 in
theorem zzItoa_any (m : Nat) (w : World) (h1 : 1 ≤ m) (h2 : m < 100000) :
    Calls Tryd.prog 7 #[.int .i64 m] w fun e w' => e = .returned (.string ⟨(Lib.decDigits m).toArray⟩) ∧ Below w.heap.size w w' := by
  have hm0 : ¬ m = 0 := by omega
  go_enter Tryd.func7, Tryd.ntmps7
  go_wp2
  go_loopw [0, 4] (fun n i wr => ∃ (j q : Nat) (X : Array Value), j ≤ 5 ∧ q < 100000 ∧ n = .int .i64 (q : Int) ∧ i = .int .i64 (24 - (j : Int)) ∧ Hid (q = m / 10 ^ j) ∧ Hid (Dig m j X) ∧ Hid (j ≠ 0 → m / 10 ^ (j - 1) ≠ 0) ∧ wr = w.alloc (.cells X 30)) (fun n _ _ => (intOf n).toNat)
  case atStart => exact ⟨0, m, _, by omega, h2, rfl, rfl, by show _ = _; simp, ⟨rfl, fun t ht => by omega⟩, fun h => absurd rfl h, rfl⟩
  case round =>
    obtain ⟨j, q, X, hj, hq2, rfl, rfl, HQ, hX, hlast, rfl⟩ := hrel
    have hsz : X.size = 24 := hX.out.1
    by_cases hz : q = 0
    · obtain ⟨hj1, hnd⟩ := nd_of h1 (by rw [← HQ.out]; exact hz) hlast.out
      have Hnd : Hid (Lib.nDigits m = j) := hnd
      subst hz
      clear hnd
      have hal : Tryd.prog.arrayLen 30 = 24 := by kernel_rfl
      have hlen : (Lib.decDigits m).length = j := by rw [Lib.decDigits_length, Hnd.out]
      have hsl : ∀ W : World, (Instr.sliceAt 30 (.pointer (some ⟨w.heap.size, 0, none⟩)) (some (.int .i64 (24 - (j : Int)))) none none).run Tryd.prog W = .ok (.slice (some ⟨w.heap.size, 24 - j, none⟩) j j) W := fun W => by
        rw [run_sliceAt_array_l W 30 ⟨w.heap.size, 0, none⟩ (by kernel_rfl) .i64 (24 - (j : Int)) (by omega) (by rw [hal]; omega)]
        go_simp
        omega
      have hcv : (convert 31 9 (.slice (some ⟨w.heap.size, 24 - j, none⟩) j j)).run Tryd.prog (w.alloc (.cells X 30)) = .ok (.string ⟨(Lib.decDigits m).toArray⟩) (w.alloc (.cells X 30)) := by
        have h := run_convert_bytes_back (P := Tryd.prog) (w.alloc (.cells X 30)) 31 9 5 ⟨w.heap.size, 24 - j, none⟩ j (Lib.decDigits m) Tryd.underlying31 Tryd.underlying5 Tryd.underlying9 (fun i hi => by
          rw [Lib.add_plain, World.cell?_alloc_new]
          exact dig_bytes hX.out Hnd.out hj i hi)
        rw [hlen] at h
        exact h
      clear hal hlen
      go_wp2
      go_ret
      exact ⟨rfl, (Below.refl _ _).alloc (Nat.le_refl _) _⟩
    · have hj5 : j < 5 := dig_lt5 h2 hj (by rw [← HQ.out]; exact hz)
      obtain ⟨v0, hv0⟩ : ∃ v, X[24 - j - 1]? = some v := ⟨_, Array.getElem?_eq_getElem (by omega)⟩
      go_wp2
      go_roundw
      case rel => exact ⟨j + 1, q / 10, _, by omega, by omega, by go_num, by go_num, by show _ = _; rw [HQ.out]; exact div_step m j, by rw [HQ.out]; exact dig_step hX.out hj5, fun _ => by rw [show j + 1 - 1 = j by omega, ← HQ.out]; exact hz, rfl⟩
      case measure => simp [intOf]; omega
end Go.Proofs.Qxb6612236aDoor
