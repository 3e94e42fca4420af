/-
  ZZdecoderState, b1SameBytes and zzBytes walked.
-/
import Derived.Test.Qxb6612240aBytes
namespace Go.Proofs.Qxb6612240a
open Go Go.RowKit
set_option linter.unusedVariables false

set_option maxHeartbeats 400000 in
theorem state_core (D : Nat) (ad : Addr) (L cap : Nat) (w : World) (h0 : w.cell? ⟨D, 0, none⟩ = some (.slice (some ad) L cap)) (h1 : w.cell? ⟨D, 1, none⟩ = some .nilIface) :
    Calls Try.prog 10 #[.pointer (some ⟨D, 0, none⟩)] w fun e w' => e = .returned (.tuple #[.slice (some ad) L cap, .bool false]) ∧ ∃ n, w' = w.drewN n := by
  go_enter Try.func10, Try.ntmps10
  go_wp2
  go_region
  go_wp2
  go_ret2
  exact ⟨rfl, 1, rfl⟩

theorem state_dec (D : Nat) (zs : List Int) (w : World) (h : Dec w D zs) :
    Calls Try.prog 10 #[.pointer (some ⟨D, 0, none⟩)] w fun e w' => ∃ ad cap, e = .returned (.tuple #[.slice (some ad) zs.length cap, .bool false]) ∧ BRow D w (some ad) zs ∧ ∃ n, w' = w.drewN n := by
  obtain ⟨ad, cap, h0, h1, hf, hl, hc, hB, hD⟩ := h
  refine (state_core D ad zs.length cap w h0 h1).mono ?_
  rintro e w' ⟨rfl, hn⟩
  exact ⟨ad, cap, rfl, hB, hn⟩

set_option maxHeartbeats 1000000 in
theorem same_any (a a' : Option Addr) (c c' : Nat) (zs : List Int) (w : World) (hl : zs.length ≤ 9223372036854775807) (B B' : Nat) (hB : Hid (BRow B w a zs)) (hB' : Hid (BRow B' w a' zs)) :
    Calls Try.prog 11 #[.slice a zs.length c, .slice a' zs.length c'] w fun e w' => e = .returned (.bool true) ∧ ∃ n, w' = w.drewN n := by
  go_enter Try.func11, Try.ntmps11
  go_wp2
  go_loopw [5] (fun i wr => ∃ k n : Nat, k ≤ zs.length ∧ i = .int .i64 k ∧ wr = w.drewN n) (fun i _ => zs.length - (intOf i).toNat)
  case atStart => exact ⟨0, 0, Nat.zero_le _, rfl, rfl⟩
  case round =>
    obtain ⟨k, n, hk, rfl, rfl⟩ := hrel
    by_cases hlt : k < zs.length
    · obtain ⟨b, off, rfl, _, hc⟩ := hB.out k hlt
      obtain ⟨b', off', rfl, _, hc'⟩ := hB'.out k hlt
      have h1 := hc k hlt
      have h2 := hc' k hlt
      clear hc hc'
      generalize zs.getD k 0 = z at *
      go_wp2
      go_region
      go_wp2
      go_roundw
      case rel => exact ⟨k + 1, n + 1, by omega, by go_num, rfl⟩
      case measure => simp [intOf]; omega
    · go_wp2
      go_ret
      exact ⟨rfl, n, rfl⟩

/-- It answers a bool. -/
def AnsAny (e : Ending) : Prop := ∃ B, e = .returned (.bool B)
theorem ansAny (B : Bool) : AnsAny (.returned (.bool B)) := ⟨B, rfl⟩

set_option maxHeartbeats 1000000 in
theorem zzb_any (a0 a1 a2 : Option Addr) (l0 l1 l2 c0 c1 c2 : Nat) (w : World) (h0 : l0 ≤ 9223372036854775807) (h1 : l1 ≤ 9223372036854775807) (h2 : l2 ≤ 9223372036854775807) :
    Calls Try.prog 6 #[.slice a0 l0 c0, .slice a1 l1 c1, .slice a2 l2 c2] w fun e w' => AnsAny e ∧ w' = w := by
  go_enter Try.func6, Try.ntmps6
  go_wp2
  all_goals
    go_ret
    exact ⟨ansAny _, rfl⟩

end Go.Proofs.Qxb6612240a
