/-
  zzBytes_FnNewSessionScriptOfThree walked: it answers some bool; where it answers true no string is longer than 1048576 bytes.
-/
import Derived.Test.Qxb6612236aDoorPlain
import Derived.WalkKit
import Derived.WalkSpells
import Derived.LoopTactic
import Derived.Test.Qxb6612236aDoorRows
namespace Go.Proofs.Qxb6612236aDoor
open Go Go.RowKit
set_option linter.unusedVariables false

/-- A slice of strings as the walks are told of it: cell by cell. -/
def Strs (w : World) (a : Option Addr) (ss : List ByteArray) : Prop :=
  ∀ k, k < ss.length → ∃ b off, a = some ⟨b, off, none⟩ ∧ b < w.heap.size ∧ ∀ j, j < ss.length → w.cell? ⟨b, off + j, none⟩ = some (.string (ss.getD j ByteArray.empty))

theorem getD_mem (ss : List ByteArray) (k : Nat) (h : k < ss.length) : ss.getD k ByteArray.empty ∈ ss := by
  rw [List.getD_eq_getElem?_getD, List.getElem?_eq_getElem h]
  exact List.getElem_mem h

/-- What zzBytes answers. -/
def AnsB (ss : List ByteArray) (e : Ending) : Prop := ∃ B, e = .returned (.bool B) ∧ (B = true → ∀ s ∈ ss, s.size ≤ 1048576)
theorem ansB_no (ss : List ByteArray) : AnsB ss (.returned (.bool false)) := ⟨false, rfl, fun h => by cases h⟩
theorem ansB_yes {ss : List ByteArray} (h : ∀ s ∈ ss, s.size ≤ 1048576) : AnsB ss (.returned (.bool true)) := ⟨true, rfl, fun _ => h⟩

set_option maxHeartbeats 1000000 in
theorem zzBytes2_any (p : ByteArray) (a : Option Addr) (cap : Nat) (ss : List ByteArray) (w : World) (hp : p.size ≤ maxLen) (hlen : ss.length ≤ maxLen) (hS : Hid (Strs w a ss)) (hsz : Hid (∀ s ∈ ss, s.size ≤ maxLen)) :
    Calls Tryd.prog 8 #[.string p, .slice a ss.length cap] w fun e w' => AnsB ss e ∧ w' = w := by
  unfold maxLen at hp hlen
  by_cases h1 : 1048576 < p.size
  · go_enter Tryd.func8, Tryd.ntmps8
    go_wp2
    go_ret
    exact ⟨ansB_no ss, rfl⟩
  have d1 : decide (1048576 < (p.size : Int)) = false := by simp; omega
  by_cases h2 : 1048576 < ss.length
  · go_enter Tryd.func8, Tryd.ntmps8
    go_wp2
    go_ret
    exact ⟨ansB_no ss, rfl⟩
  have d2 : decide (1048576 < (ss.length : Int)) = false := by simp; omega
  by_cases h3 : 1048576 < p.size + ss.length
  · go_enter Tryd.func8, Tryd.ntmps8
    go_wp2
    go_ret
    exact ⟨ansB_no ss, rfl⟩
  have d3 : decide (1048576 < (p.size : Int) + (ss.length : Int)) = false := by simp; omega
  go_enter Tryd.func8, Tryd.ntmps8
  go_wp2
  go_loop [5, 6] (fun t i => ∃ (k : Nat) (n : Int), k ≤ ss.length ∧ i = .int .i64 k ∧ t = .int .i64 n ∧ 0 ≤ n ∧ n ≤ 1048576 ∧ Hid (∀ s ∈ ss.take k, s.size ≤ 1048576)) (fun _ i => ss.length - (intOf i).toNat)
  case atStart => exact ⟨0, _, Nat.zero_le _, rfl, rfl, by omega, by omega, by show ∀ s ∈ _, _; simp⟩
  case round =>
    obtain ⟨k, n, hk, rfl, rfl, hn0, hn1, hprev⟩ := hrel
    by_cases hlt : k < ss.length
    · obtain ⟨b, off, rfl, hbl, hc⟩ := hS.out k hlt
      have hck := hc k hlt
      have hm := hsz.out _ (getD_mem ss k hlt)
      have hin : Hid (∀ s ∈ ss.take (k + 1), s ∈ ss.take k ∨ s = ss.getD k ByteArray.empty) := by
        intro s hs
        rw [List.take_succ_eq_append_getElem hlt, List.mem_append, List.mem_singleton] at hs
        rw [List.getD_eq_getElem?_getD, List.getElem?_eq_getElem hlt]
        exact hs
      generalize ss.getD k ByteArray.empty = sk at *
      clear hc
      unfold maxLen at hm
      by_cases h4 : 1048576 < sk.size
      · go_wp2
        go_ret
        exact ⟨ansB_no ss, rfl⟩
      by_cases h5 : 1048576 < n + sk.size
      · go_wp2
        go_ret
        exact ⟨ansB_no ss, rfl⟩
      go_wp2
      go_round
      case rel => exact ⟨k + 1, _, by omega, by go_num, rfl, by omega, by omega, fun s hs => (hin.out s hs).elim (hprev.out s) (fun e => by rw [e]; omega)⟩
      case measure => simp [intOf]; omega
    · go_wp2
      go_ret
      exact ⟨ansB_yes (fun s hs => hprev.out s (by rw [List.take_of_length_le (by omega)]; exact hs)), rfl⟩
end Go.Proofs.Qxb6612236aDoor
