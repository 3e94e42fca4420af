/-
  zzBytes walked: where it answers true the lengths are bounded.
-/
import Derived.Test.Qxb6609165aSizes
namespace Go.Proofs.Qxb6609165a
open Go Go.RowKit
set_option linter.unusedVariables false

/-- How many followers the first k slots name. -/
def sumF (S : Nat → SlotM) : Nat → Nat
  | 0 => 0
  | k + 1 => sumF S k + (S k).fn

/-- What zzBytes answers. -/
def AnsB (S : Nat → SlotM) (n m k : Nat) (e : Ending) : Prop :=
  ∃ B, e = .returned (.bool B) ∧ (B = true → n + sumF S n ≤ 1048576 ∧ (∀ i, i < n → (S i).nn ≤ 1048576) ∧ m ≤ 1048576 ∧ k ≤ 1048576)
theorem ansB_no (S : Nat → SlotM) (n m k : Nat) : AnsB S n m k (.returned (.bool false)) := ⟨false, rfl, fun h => by cases h⟩
theorem ansB_yes {S : Nat → SlotM} {n m k : Nat} (h : n + sumF S n ≤ 1048576 ∧ (∀ i, i < n → (S i).nn ≤ 1048576) ∧ m ≤ 1048576 ∧ k ≤ 1048576) : AnsB S n m k (.returned (.bool true)) := ⟨true, rfl, fun _ => h⟩

/-- What is known behind the first i slots. -/
def Upto (S : Nat → SlotM) (n i : Nat) (q : Int) : Prop := (n + sumF S i : Nat) ≤ q ∧ ∀ j, j < i → (S j).nn ≤ 1048576

set_option maxRecDepth 100000 in
set_option maxHeartbeats 8000000 in
theorem bytes_any (x0 x1 : Int) (a : Option Addr) (n c : Nat) (S : Nat → SlotM) (a1 : Option Addr) (n1 c1 : Nat) (f1 g1 : Nat → ByteArray) (a2 : Option Addr) (n2 c2 : Nat) (f2 g2 : Nat → ByteArray) (w : World)
    (hn : n ≤ 9223372036854775807) (hn1 : n1 ≤ 9223372036854775807) (hn2 : n2 ≤ 9223372036854775807) (B : Nat) (hB : Hid (SlotRow B w a n S)) (hB1 : Hid (PairRow B w a1 n1 f1 g1)) (hB2 : Hid (PairRow B w a2 n2 f2 g2))
    (hf1 : Hid (∀ j, j < n1 → (f1 j).size ≤ 9223372036854775807 ∧ (g1 j).size ≤ 9223372036854775807)) (hf2 : Hid (∀ j, j < n2 → (f2 j).size ≤ 9223372036854775807 ∧ (g2 j).size ≤ 9223372036854775807)) :
    Calls Try.prog 6 #[.int .i64 x0, .int .u64 x1, .slice a n c, .slice a1 n1 c1, .slice a2 n2 c2] w fun e w' => AnsB S n n1 n2 e ∧ w' = w := by
  by_cases b0 : 1048576 < n
  · go_enter Try.func6, Try.ntmps6
    go_wp2
    go_ret
    exact ⟨ansB_no S n n1 n2, rfl⟩
  have d0 : decide (1048576 < (n : Int)) = false := by simp; omega
  go_enter Try.func6, Try.ntmps6
  go_wp2
  go_loop [11, 12] (fun r i => ∃ (j : Nat) (q : Int), j ≤ n ∧ i = .int .i64 j ∧ r = .int .i64 q ∧ (0 ≤ q ∧ q ≤ 1048576) ∧ Hid (Upto S n j q)) (fun _ i => n - (intOf i).toNat)
  case atStart => exact ⟨0, n, Nat.zero_le _, rfl, rfl, by omega, by show _ ≤ _; simp [sumF], fun j hj => by omega⟩
  case round =>
    clear d0
    obtain ⟨i, q, hi, rfl, rfl, hq, hU⟩ := hrel
    by_cases hlt : i < n
    · obtain ⟨b, off, rfl, hb, hc⟩ := hB.out i hlt
      have s := hc i hlt
      clear hc
      have k1 := s.c1
      have k3 := s.c3
      have k4 := s.c4
      have hls := s.ls
      have hfl := s.fl
      have hnl := s.nl
      have HS : Hid (SlotAt B w b (off + i * 5) (S i)) := s
      clear s
      have HE : Hid (sumF S (i + 1) = sumF S i + (S i).fn) := rfl
      have HN : Hid (∀ j, j < i + 1 → j < i ∨ j = i) := fun j hj => by omega
      generalize hs : S i = s at *
      have Hs : Hid (S i = s) := hs
      clear hs
      by_cases hbad : 1048576 < s.ld.size ∨ 1048576 < q + s.ld.size ∨ 1048576 < s.fn ∨ 1048576 < q + s.ld.size + s.fn
      · go_wp2
        all_goals first | (exfalso; omega) | (go_ret; exact ⟨ansB_no S n n1 n2, rfl⟩)
      have d1 : decide (1048576 < (s.ld.size : Int)) = false := by simp; omega
      have d2 : decide (1048576 < q + (s.ld.size : Int)) = false := by simp; omega
      have d3 : decide (1048576 < (s.fn : Int)) = false := by simp; omega
      have d4 : decide (1048576 < q + (s.ld.size : Int) + (s.fn : Int)) = false := by simp; omega
      have hq2 : 0 ≤ q + (s.ld.size : Int) + s.fn ∧ q + (s.ld.size : Int) + s.fn ≤ 1048576 := by omega
      clear hbad
      go_wp2
      clear d1 d2 d3 d4
      go_loop [11, 13] (fun r i => ∃ (j : Nat) (z : Int), j ≤ s.fn ∧ i = .int .i64 j ∧ r = .int .i64 z ∧ (q + (s.ld.size : Int) + s.fn ≤ z ∧ z ≤ 1048576)) (fun _ i => s.fn - (intOf i).toNat)
      case atStart => exact ⟨0, _, Nat.zero_le _, rfl, rfl, by omega⟩
      case round =>
        obtain ⟨j, z, hj, rfl, rfl, hz⟩ := hrel
        by_cases hlt2 : j < s.fn
        · obtain ⟨fb, fo, hfa, _, hfc⟩ := HS.out.fr j hlt2
          have h1 := hfc j hlt2
          have h2 := HS.out.fss j hlt2
          clear hfc
          rw [hfa] at k3
          have HF : Hid (s.fa = some ⟨fb, fo, none⟩) := hfa
          clear hfa
          generalize s.fs j = fj at *
          by_cases hbad : 1048576 < fj.size ∨ 1048576 < z + fj.size
          · go_wp2
            all_goals first | (exfalso; omega) | (go_ret; exact ⟨ansB_no S n n1 n2, rfl⟩)
          have d1 : decide (1048576 < (fj.size : Int)) = false := by simp; omega
          have d2 : decide (1048576 < z + (fj.size : Int)) = false := by simp; omega
          go_wp2
          go_round
          case rel => exact ⟨j + 1, _, by omega, by go_num, rfl, by omega⟩
          case measure => simp [intOf]; omega
        · by_cases hbad : 1048576 < s.nn ∨ 1048576 < z + s.nn
          · go_wp2
            all_goals first | (exfalso; omega) | (go_ret; exact ⟨ansB_no S n n1 n2, rfl⟩)
          have d1 : decide (1048576 < (s.nn : Int)) = false := by simp; omega
          have d2 : decide (1048576 < z + (s.nn : Int)) = false := by simp; omega
          have hnn : s.nn ≤ 1048576 := by omega
          have hz2 : q + (s.ld.size : Int) + s.fn ≤ z + s.nn ∧ z + (s.nn : Int) ≤ 1048576 := by omega
          clear hbad hz
          go_wp2
          clear d1 d2
          go_loop [11, 14] (fun r i => ∃ (j : Nat) (y : Int), j ≤ s.nn ∧ i = .int .i64 j ∧ r = .int .i64 y ∧ (q + (s.ld.size : Int) + s.fn ≤ y ∧ y ≤ 1048576)) (fun _ i => s.nn - (intOf i).toNat)
          case atStart => exact ⟨0, _, Nat.zero_le _, rfl, rfl, by omega⟩
          case round =>
            obtain ⟨j3, y, hj3, rfl, rfl, hy⟩ := hrel
            by_cases hlt3 : j3 < s.nn
            · obtain ⟨fb, fo, hfa, _, hfc⟩ := HS.out.nr j3 hlt3
              have h1 := (hfc j3 hlt3).1
              have h2 := HS.out.nss j3 hlt3
              clear hfc
              rw [hfa] at k4
              have HF : Hid (s.na = some ⟨fb, fo, none⟩) := hfa
              clear hfa
              generalize s.nf j3 = fj at *
              by_cases hbad : 1048576 < fj.size ∨ 1048576 < y + fj.size
              · go_wp2
                all_goals first | (exfalso; omega) | (go_ret; exact ⟨ansB_no S n n1 n2, rfl⟩)
              have d1 : decide (1048576 < (fj.size : Int)) = false := by simp; omega
              have d2 : decide (1048576 < y + (fj.size : Int)) = false := by simp; omega
              go_wp2
              go_round
              case rel => exact ⟨j3 + 1, _, by omega, by go_num, rfl, by omega⟩
              case measure => simp [intOf]; omega
            · go_wp2
              go_round
              case rel =>
                refine ⟨i + 1, y, by omega, by go_num, rfl, by omega, ?_, fun j hj => ?_⟩
                · have e1 := HE.out
                  have e2 := hU.out.1
                  omega
                · rcases HN.out j hj with h | h
                  · exact hU.out.2 j h
                  · rw [h, Hs.out]; exact hnn
              case measure => simp [intOf]; omega
    · have HU : Hid (n + sumF S n ≤ 1048576 ∧ ∀ j, j < n → (S j).nn ≤ 1048576) := by
        have e : i = n := by omega
        subst e
        have e2 := hU.out.1
        exact ⟨by omega, hU.out.2⟩
      by_cases hbad : 1048576 < n1 ∨ 1048576 < q + n1
      · go_wp2
        all_goals first | (exfalso; omega) | (go_ret; exact ⟨ansB_no S n n1 n2, rfl⟩)
      have d1 : decide (1048576 < (n1 : Int)) = false := by simp; omega
      have d2 : decide (1048576 < q + (n1 : Int)) = false := by simp; omega
      have hb1 : n1 ≤ 1048576 := by omega
      have hq1 : 0 ≤ q + (n1 : Int) ∧ q + (n1 : Int) ≤ 1048576 := by omega
      clear hbad
      go_wp2
      clear d1 d2
      go_loop [11, 15] (fun r i => ∃ (j : Nat) (z : Int), j ≤ n1 ∧ i = .int .i64 j ∧ r = .int .i64 z ∧ (0 ≤ z ∧ z ≤ 1048576)) (fun _ i => n1 - (intOf i).toNat)
      case atStart => exact ⟨0, _, Nat.zero_le _, rfl, rfl, hq1⟩
      case round =>
        clear hq1 hq
        obtain ⟨j, z, hj, rfl, rfl, hz⟩ := hrel
        by_cases hlt1 : j < n1
        · obtain ⟨b, off, rfl, hb, hc⟩ := hB1.out j hlt1
          obtain ⟨h1, h2⟩ := hc j hlt1
          obtain ⟨s1, s2⟩ := hf1.out j hlt1
          clear hc
          generalize f1 j = fj at *
          generalize g1 j = gj at *
          by_cases hbad : 1048576 < fj.size ∨ 1048576 < z + fj.size ∨ 1048576 < gj.size ∨ 1048576 < z + fj.size + gj.size
          · go_wp2
            all_goals first | (exfalso; omega) | (go_ret; exact ⟨ansB_no S n n1 n2, rfl⟩)
          have d1 : decide (1048576 < (fj.size : Int)) = false := by simp; omega
          have d2 : decide (1048576 < z + (fj.size : Int)) = false := by simp; omega
          have d3 : decide (1048576 < (gj.size : Int)) = false := by simp; omega
          have d4 : decide (1048576 < z + (fj.size : Int) + (gj.size : Int)) = false := by simp; omega
          go_wp2
          go_round
          case rel => exact ⟨j + 1, _, by omega, by go_num, rfl, by omega⟩
          case measure => simp [intOf]; omega
        · by_cases hbad : 1048576 < n2 ∨ 1048576 < z + n2
          · go_wp2
            all_goals first | (exfalso; omega) | (go_ret; exact ⟨ansB_no S n n1 n2, rfl⟩)
          have d1 : decide (1048576 < (n2 : Int)) = false := by simp; omega
          have d2 : decide (1048576 < z + (n2 : Int)) = false := by simp; omega
          have hb2 : n2 ≤ 1048576 := by omega
          have hq2 : 0 ≤ z + (n2 : Int) ∧ z + (n2 : Int) ≤ 1048576 := by omega
          clear hbad
          go_wp2
          clear d1 d2
          go_loop [11, 16] (fun r i => ∃ (j : Nat) (z : Int), j ≤ n2 ∧ i = .int .i64 j ∧ r = .int .i64 z ∧ (0 ≤ z ∧ z ≤ 1048576)) (fun _ i => n2 - (intOf i).toNat)
          case atStart => exact ⟨0, _, Nat.zero_le _, rfl, rfl, hq2⟩
          case round =>
            clear hq2 hz
            obtain ⟨j2, z2, hj2, rfl, rfl, hz2⟩ := hrel
            by_cases hlt2 : j2 < n2
            · obtain ⟨b, off, rfl, hb, hc⟩ := hB2.out j2 hlt2
              obtain ⟨h1, h2⟩ := hc j2 hlt2
              obtain ⟨s1, s2⟩ := hf2.out j2 hlt2
              clear hc
              generalize f2 j2 = fj at *
              generalize g2 j2 = gj at *
              by_cases hbad : 1048576 < fj.size ∨ 1048576 < z2 + fj.size ∨ 1048576 < gj.size ∨ 1048576 < z2 + fj.size + gj.size
              · go_wp2
                all_goals first | (exfalso; omega) | (go_ret; exact ⟨ansB_no S n n1 n2, rfl⟩)
              have d1 : decide (1048576 < (fj.size : Int)) = false := by simp; omega
              have d2 : decide (1048576 < z2 + (fj.size : Int)) = false := by simp; omega
              have d3 : decide (1048576 < (gj.size : Int)) = false := by simp; omega
              have d4 : decide (1048576 < z2 + (fj.size : Int) + (gj.size : Int)) = false := by simp; omega
              go_wp2
              go_round
              case rel => exact ⟨j2 + 1, _, by omega, by go_num, rfl, by omega⟩
              case measure => simp [intOf]; omega
            · go_wp2
              go_ret
              exact ⟨ansB_yes ⟨HU.out.1, HU.out.2, hb1, hb2⟩, rfl⟩
end Go.Proofs.Qxb6609165a
