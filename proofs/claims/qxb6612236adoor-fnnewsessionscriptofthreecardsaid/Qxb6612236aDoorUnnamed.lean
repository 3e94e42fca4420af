/-
  policy.unnamed walked: the first of 'value', 'value2', 'value3', .. that the map does not answer true for.
-/
import Derived.Test.Qxb6612236aDoorPlain
import Derived.Test.Qxb6612236aDoorShelf
import Derived.WalkKit
import Derived.WalkSpells
import Derived.LoopTactic
namespace Go.Proofs.Qxb6612236aDoor
open Go Go.RowKit

theorem bsize (t : ByteArray) : t.size = t.data.toList.length := Array.length_toList.symm

theorem cand_next (s t : ByteArray) (k : Nat) (hk : 1 ≤ k) (h : t = s ++ ⟨(Lib.decDigits (k + 1)).toArray⟩) : t.data.toList = cand s.data.toList (k + 1) := by
  rw [cand_more _ (by omega), h]
  simp

set_option maxHeartbeats 400000 in
theorem unnamed_any (s : ByteArray) (mv : Option Nat) (f : List UInt8 → Bool) (sz : Nat) (w : World) (hs : s.size ≤ 1000000) (hsz : sz ≤ 5000)
    (hlook : Hid (∀ (w' : World) (t : ByteArray), Below w.heap.size w w' → t.size ≤ maxLen → (Instr.lookup 22 (.map mv) (.string t) false).run Tryd.prog w' = .ok (.bool (f t.data.toList)) w'))
    (hpig : Hid (∀ k, (∀ j, 1 ≤ j → j ≤ k → f (cand s.data.toList j) = true) → k ≤ sz))
    (htab : Hid (Lib.TabIs Tryd.prog w powName .u64 Lib.pow10Tab)) :
    Calls Tryd.prog 10 #[.string s, .map mv] w fun e w' => (∃ (N : Nat) (r : ByteArray), 1 ≤ N ∧ N ≤ sz + 1 ∧ (∀ j, 1 ≤ j → j < N → f (cand s.data.toList j) = true) ∧ f (cand s.data.toList N) = false ∧ r.data.toList = cand s.data.toList N ∧ e = .returned (.string r)) ∧ Below w.heap.size w w' := by
  go_enter Tryd.func10, Tryd.ntmps10
  go_wp2
  go_loopw [5, 6] (fun v n wr => ∃ (k : Nat) (t : ByteArray), 1 ≤ k ∧ k ≤ sz + 1 ∧ v = .string t ∧ n = .int .i64 ((k : Int) + 1) ∧ Hid (t.data.toList = cand s.data.toList k) ∧ Hid (∀ j, 1 ≤ j → j < k → f (cand s.data.toList j) = true) ∧ Below w.heap.size w wr) (fun _ n _ => sz + 3 - (intOf n).toNat)
  case atStart => exact ⟨1, s, by omega, by omega, rfl, rfl, (cand_one _).symm, fun j h1 h2 => by omega, Below.refl _ _⟩
  case round =>
    obtain ⟨k, t, hk1, hk2, rfl, rfl, ht, hprev, hb⟩ := hrel
    have htl : t.size ≤ maxLen := by
      have h1 := cand_length s.data.toList k (by omega)
      rw [← ht.out] at h1
      have e1 := bsize t
      have e2 := bsize s
      unfold maxLen
      omega
    have hl := hlook.out _ t hb htl
    cases hf : f t.data.toList with
    | true =>
      rw [hf] at hl
      have hk3 : k ≤ sz := hpig.out k (fun j h1 h2 => by
        rcases Nat.lt_or_eq_of_le h2 with h3 | h3
        · exact hprev.out j h1 h3
        · rw [h3, ← ht.out]; exact hf)
      have Hf : Hid (f t.data.toList = true) := hf
      clear hf
      go_wp2_with fail
      have htb := tab_below hb htab.out
      have hit := itoa_any (k + 1) (by omega) _ htb
      have hdl := dec_len5 (k + 1) (by omega)
      clear htb
      refine hit.mono ?_
      rintro e w1 ⟨rfl, hb1⟩
      go_wp2_with fail
      go_roundw
      case rel => exact ⟨k + 1, _, by omega, by omega, rfl, by go_num, cand_next s _ k hk1 rfl, fun j h1 h2 => by
        rcases Nat.lt_or_eq_of_le (Nat.le_of_lt_succ h2) with h3 | h3
        · exact hprev.out j h1 h3
        · rw [h3, ← ht.out]; exact Hf, hb.trans (hb1.mono hb.size)⟩
      case measure => simp [intOf]; omega
    | false =>
      rw [hf] at hl
      have Hf : Hid (f t.data.toList = false) := hf
      clear hf
      go_wp2_with fail
      go_ret
      exact ⟨⟨k, t, hk1, hk2, hprev, by rw [← ht.out]; exact Hf, ht, rfl⟩, hb⟩
end Go.Proofs.Qxb6612236aDoor
