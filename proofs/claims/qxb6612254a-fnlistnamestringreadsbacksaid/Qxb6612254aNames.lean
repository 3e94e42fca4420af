/-
  The helpers over names walked: String, zzB1At, zzB1FirstByte, zzB1LastByte, zzB1HasByte, zzBytes.
-/
import Derived.Test.Qxb6612254aRows
import Derived.WalkKit
import Derived.WalkSpells
import Derived.LoopTactic
import Derived.Lib.Strings
import Derived.Deep.Draws
namespace Go.Proofs.Qxb6612254a
open Go Go.RowKit
set_option linter.unusedVariables false

/-- No byte of s is a slash. -/
def NoSlash (s : ByteArray) : Prop := ∀ i (h : i < s.size), s[i].toNat ≠ 47

set_option maxHeartbeats 400000 in
theorem string_any (t p e : ByteArray) (w : World) (h : t.size + p.size + e.size ≤ 3000000) :
    Calls Try.prog 9 #[.agg #[.string t, .string p, .string e]] w fun r w' => r = .returned (.string (t ++ ⟨#[47]⟩ ++ p ++ ⟨#[47]⟩ ++ e)) ∧ w' = w.alloc (.cells #[.string t, .string p, .string e] 24) := by
  go_enter Try.func9, Try.ntmps9
  go_wp2
  go_ret
  exact ⟨rfl, rfl⟩

set_option maxHeartbeats 400000 in
theorem first_at (s : ByteArray) (k : Nat) (w : World) (hs : s.size ≤ 9223372036854775807) (hk : k < s.size) (hno : Hid (∀ i (h : i < s.size), i < k → s[i].toNat ≠ 47)) (hyes : Hid (s[k].toNat = 47)) :
    Calls Try.prog 12 #[.string s, .int .u8 47] w fun e w' => e = .returned (.int .i64 k) ∧ w' = w := by
  go_enter Try.func12, Try.ntmps12
  go_wp2
  go_loop [5] (fun i => ∃ j : Nat, j ≤ k ∧ i = .int .i64 j) (fun i => s.size - (intOf i).toNat)
  case atStart => exact ⟨0, Nat.zero_le _, rfl⟩
  case round =>
    obtain ⟨j, hj, rfl⟩ := hrel
    by_cases hlt : j < k
    · have hjs : j < s.size := by omega
      have hb : ((s[j].toNat : Int) == 47) = false := by rw [beq_eq_false_iff_ne]; have := hno.out j hjs hlt; omega
      go_wp2
      go_round
      case rel => exact ⟨j + 1, by omega, by go_num⟩
      case measure => simp [intOf]; omega
    · obtain rfl : j = k := by omega
      have hb : ((s[j].toNat : Int) == 47) = true := by rw [beq_iff_eq]; have := hyes.out; omega
      go_wp2
      go_ret
      exact ⟨rfl, rfl⟩

set_option maxHeartbeats 400000 in
theorem first_no (s : ByteArray) (w : World) (hs : s.size ≤ 9223372036854775807) (hno : Hid (NoSlash s)) :
    Calls Try.prog 12 #[.string s, .int .u8 47] w fun e w' => e = .returned (.int .i64 (-1)) ∧ w' = w := by
  go_enter Try.func12, Try.ntmps12
  go_wp2
  go_loop [5] (fun i => ∃ j : Nat, j ≤ s.size ∧ i = .int .i64 j) (fun i => s.size - (intOf i).toNat)
  case atStart => exact ⟨0, Nat.zero_le _, rfl⟩
  case round =>
    obtain ⟨j, hj, rfl⟩ := hrel
    by_cases hlt : j < s.size
    · have hb : ((s[j].toNat : Int) == 47) = false := by rw [beq_eq_false_iff_ne]; have := hno.out j hlt; omega
      go_wp2
      go_round
      case rel => exact ⟨j + 1, by omega, by go_num⟩
      case measure => simp [intOf]; omega
    · go_wp2
      go_ret
      exact ⟨rfl, rfl⟩

set_option maxHeartbeats 400000 in
theorem last_at (s : ByteArray) (k : Nat) (w : World) (hs : s.size ≤ 9223372036854775807) (hk : k < s.size) (hno : Hid (∀ i (h : i < s.size), k < i → s[i].toNat ≠ 47)) (hyes : Hid (s[k].toNat = 47)) :
    Calls Try.prog 13 #[.string s, .int .u8 47] w fun e w' => e = .returned (.int .i64 k) ∧ w' = w := by
  go_enter Try.func13, Try.ntmps13
  go_wp2
  go_loop [5] (fun i => ∃ j : Nat, k ≤ j ∧ j < s.size ∧ i = .int .i64 j) (fun i => (intOf i).toNat)
  case atStart => exact ⟨s.size - 1, by omega, by omega, by congr 1; omega⟩
  case round =>
    obtain ⟨j, hj, hjs, rfl⟩ := hrel
    by_cases hlt : k < j
    · have hb : ((s[j].toNat : Int) == 47) = false := by rw [beq_eq_false_iff_ne]; have := hno.out j hjs hlt; omega
      go_wp2
      go_round
      case rel => exact ⟨j - 1, by omega, by omega, by congr 1; omega⟩
      case measure => simp [intOf]; omega
    · obtain rfl : j = k := by omega
      have hb : ((s[j].toNat : Int) == 47) = true := by rw [beq_iff_eq]; have := hyes.out; omega
      go_wp2
      go_ret
      exact ⟨rfl, rfl⟩

set_option maxHeartbeats 400000 in
theorem has_no (s : ByteArray) (w : World) (hs : s.size ≤ 9223372036854775807) (hno : Hid (NoSlash s)) :
    Calls Try.prog 11 #[.string s, .int .u8 47] w fun e w' => e = .returned (.bool false) ∧ w' = w := by
  go_enter Try.func11, Try.ntmps11
  go_wp2_with fail
  refine (first_no s _ hs hno).mono ?_
  rintro e w' ⟨rfl, hw⟩
  subst hw
  go_wp2_with fail
  go_ret
  exact ⟨rfl, rfl⟩

/-- The first slash. -/
theorem slash_first (s : ByteArray) (h : ¬ NoSlash s) : ∃ k, ∃ hk : k < s.size, s[k].toNat = 47 ∧ ∀ i (h : i < s.size), i < k → s[i].toNat ≠ 47 := by
  have key : ∀ n, n ≤ s.size → (∀ i (h : i < s.size), i < n → s[i].toNat ≠ 47) ∨ ∃ k, ∃ hk : k < s.size, s[k].toNat = 47 ∧ ∀ i (h : i < s.size), i < k → s[i].toNat ≠ 47 := by
    intro n
    induction n with
    | zero => intro _; left; intro i h1 h2; omega
    | succ n ih =>
      intro hn
      rcases ih (by omega) with h1 | h1
      · by_cases h2 : (s[n]'(by omega)).toNat = 47
        · exact .inr ⟨n, by omega, h2, h1⟩
        · left
          intro i hi hin
          rcases Nat.lt_or_eq_of_le (Nat.le_of_lt_succ hin) with h3 | h3
          · exact h1 i hi h3
          · subst h3; exact h2
      · exact .inr h1
  rcases key s.size (Nat.le_refl _) with h1 | h1
  · exact absurd (fun i hi => h1 i hi hi) h
  · exact h1

set_option maxHeartbeats 400000 in
theorem has_yes (s : ByteArray) (w : World) (hs : s.size ≤ 9223372036854775807) (hno : Hid (¬ NoSlash s)) :
    Calls Try.prog 11 #[.string s, .int .u8 47] w fun e w' => e = .returned (.bool true) ∧ w' = w := by
  obtain ⟨k, hk, h1, h2⟩ := slash_first s hno.out
  have hc := first_at s k w hs hk h2 h1
  clear h1 h2
  go_enter Try.func11, Try.ntmps11
  go_wp2_with fail
  refine hc.mono ?_
  rintro e w' ⟨rfl, hw⟩
  subst hw
  clear hc
  go_wp2_with fail
  go_ret
  exact ⟨rfl, rfl⟩

set_option maxHeartbeats 1000000 in
theorem at_any (s : ByteArray) (k : Int) (n : Nat) (q : ByteArray) (w : World) (hs : s.size ≤ 4000000) (hkn : Hid (k = n)) (h0 : 0 ≤ k) (hk : k + q.size ≤ s.size) (hq : Hid (∀ i (h : i < q.size), ∃ h2 : n + i < s.size, s[n + i] = q[i])) :
    Calls Try.prog 10 #[.string s, .int .i64 k, .string q] w fun e w' => e = .returned (.bool true) ∧ ∃ m, w' = w.drewN m := by
  have hkn' := hkn.out
  subst hkn'
  have d1 : decide ((n : Int) < 0) = false := by simp
  have d2 : decide (s.size < n) = false := by simp; omega
  have d3 : decide ((s.size : Int) - (n : Int) < (q.size : Int)) = false := by simp; omega
  go_enter Try.func10, Try.ntmps10
  go_wp2
  go_loopw [7] (fun i wr => ∃ j m : Nat, j ≤ q.size ∧ i = .int .i64 j ∧ wr = w.drewN m) (fun i _ => q.size - (intOf i).toNat)
  case atStart => exact ⟨0, 0, Nat.zero_le _, rfl, rfl⟩
  case round =>
    obtain ⟨j, m, hj, rfl, rfl⟩ := hrel
    by_cases hlt : j < q.size
    · obtain ⟨h2, he⟩ := hq.out j hlt
      have hidx : ∀ W : World, (Instr.index 9 (.string s) (.int .i64 ((n : Int) + (j : Int)))).run Try.prog W = .ok (.int .u8 (q[j].toNat : Int)) W := fun W => by
        have h3 : (n : Int) + (j : Int) = ((n + j : Nat) : Int) := by omega
        rw [h3, run_index_string W 9 s .i64 _ Try.underlying9, dif_pos ⟨by omega, by omega⟩]
        simp only [Int.toNat_natCast, he]
      clear he h2
      go_wp2
      go_region
      go_wp2
      go_roundw
      case rel => exact ⟨j + 1, m + 1, by omega, by go_num, rfl⟩
      case measure => simp [intOf]; omega
    · go_wp2
      go_ret
      exact ⟨rfl, m, rfl⟩

/-- It answers a bool. -/
def AnsBool (e : Ending) : Prop := ∃ B, e = .returned (.bool B)
theorem ansBool (B : Bool) : AnsBool (.returned (.bool B)) := ⟨B, rfl⟩

set_option maxHeartbeats 1000000 in
theorem zzb8_any (t p e : ByteArray) (w : World) (h0 : t.size ≤ 9223372036854775807) (h1 : p.size ≤ 9223372036854775807) (h2 : e.size ≤ 9223372036854775807) :
    Calls Try.prog 8 #[.string t, .string p, .string e] w fun r w' => AnsBool r ∧ w' = w := by
  go_enter Try.func8, Try.ntmps8
  go_wp2
  all_goals
    go_ret
    exact ⟨ansBool _, rfl⟩

set_option maxHeartbeats 2000000 in
theorem zzb14_any (t p e t2 p2 e2 : ByteArray) (w : World) (h0 : t.size ≤ 9223372036854775807) (h1 : p.size ≤ 9223372036854775807) (h2 : e.size ≤ 9223372036854775807) (h3 : t2.size ≤ 9223372036854775807) (h4 : p2.size ≤ 9223372036854775807) (h5 : e2.size ≤ 9223372036854775807) :
    Calls Try.prog 14 #[.string t, .string p, .string e, .string t2, .string p2, .string e2] w fun r w' => AnsBool r ∧ w' = w := by
  go_enter Try.func14, Try.ntmps14
  go_wp2
  all_goals
    go_ret
    exact ⟨ansBool _, rfl⟩
end Go.Proofs.Qxb6612254a
