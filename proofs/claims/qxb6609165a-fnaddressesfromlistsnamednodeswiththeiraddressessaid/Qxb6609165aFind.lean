/-
  zzFind walked: a binary search in strictly ascending nodes.
-/
import Derived.Test.Qxb6609165aMem
import Derived.Sort.Walk0
namespace Go.Proofs.Qxb6609165a
open Go Go.RowKit
set_option linter.unusedVariables false

/-- The nodes f 0 .. f (n - 1) are strictly ascending. -/
def Asc (n : Nat) (f : Nat → ByteArray) : Prop := ∀ i j, i < j → j < n → (f i).data.toList < (f j).data.toList

theorem less_is (a b : ByteArray) : Op.bytesLess a.toList b.toList = decide (a.data.toList < b.data.toList) := by
  rw [Lib.toList_data, Lib.toList_data, bytesLess_eq]

theorem asc_less {n : Nat} {f : Nat → ByteArray} (h : Asc n f) {m k : Nat} (hm : m < n) (hk : k < n) : Op.bytesLess (f m).toList (f k).toList = decide (m < k) := by
  rw [less_is]
  by_cases hlt : m < k
  · rw [decide_eq_true (h m k hlt hk), decide_eq_true hlt]
  · rw [decide_eq_false hlt]
    refine decide_eq_false ?_
    rcases Nat.lt_or_eq_of_le (Nat.le_of_not_lt hlt) with h1 | h1
    · exact List.lt_asymm (h k m h1 hm)
    · rw [h1]; exact List.lt_irrefl _

set_option maxRecDepth 100000 in
set_option maxHeartbeats 2000000 in
theorem find_any (a : Option Addr) (n c : Nat) (f g : Nat → ByteArray) (k : Nat) (w : World) (hn : n ≤ 4000000) (hk : k < n) (B : Nat) (hB : Hid (PairRow B w a n f g)) (hA : Hid (Asc n f)) :
    Calls Try.prog 32 #[.slice a n c, .string (f k)] w fun e w' => e = .returned (.int .i64 k) ∧ w' = w := by
  obtain ⟨x, hx⟩ : ∃ x, x = f k := ⟨_, rfl⟩
  rw [← hx]
  have HX : Hid (x = f k) := hx
  clear hx
  go_enter Try.func32, Try.ntmps32
  go_wp2
  go_loop [5, 6, 7] (fun l h _ => ∃ (lo hi : Nat), lo ≤ k ∧ k ≤ hi ∧ hi ≤ n ∧ l = .int .i64 lo ∧ h = .int .i64 hi) (fun l h _ => (intOf h).toNat - (intOf l).toNat)
  case atStart => exact ⟨0, n, by omega, by omega, by omega, rfl, rfl⟩
  case round =>
    obtain ⟨lo, hi, h1, h2, h3, rfl, rfl⟩ := hrel
    by_cases hlt : lo < hi
    · obtain ⟨m, hm⟩ : ∃ m, m = lo + (hi - lo) / 2 := ⟨_, rfl⟩
      have hm1 : lo ≤ m := by omega
      have hm2 : m < hi := by omega
      have hl := asc_less hA.out (m := m) (k := k) (by omega) hk
      rw [← HX.out] at hl
      obtain ⟨b, off, rfl, hb, hc⟩ := hB.out m (by omega)
      have k1 := (hc m (by omega)).1
      clear hc
      have e1 : (lo : Int) + ((hi : Int) - lo) / 2 = m := by omega
      clear hm
      generalize f m = fm at *
      by_cases hmk : m < k
      · have hl' : Op.bytesLess fm.toList x.toList = true := by rw [hl]; simpa using hmk
        clear hl
        go_wp2
        go_round
        case rel => exact ⟨m + 1, hi, by omega, by omega, by omega, by go_num, rfl⟩
        case measure => simp [intOf]; omega
      · have hl' : Op.bytesLess fm.toList x.toList = false := by rw [hl]; simpa using hmk
        clear hl
        go_wp2
        go_round
        case rel => exact ⟨lo, m, by omega, by omega, by omega, rfl, rfl⟩
        case measure => simp [intOf]; omega
    · have e1 : lo = k := by omega
      subst e1
      obtain ⟨b, off, rfl, hb, hc⟩ := hB.out lo hk
      have k1 := (hc lo hk).1
      rw [← HX.out] at k1
      clear hc
      go_wp2
      go_ret
      exact ⟨rfl, rfl⟩
end Go.Proofs.Qxb6609165a
