/-
  FnNewSessionIsFirstFreeName walked over whatever map answers the look-ups.
-/
import Derived.Test.Qxb6612236aDoorItoa
namespace Go.Proofs.Qxb6612236aDoor
open Go Go.RowKit
set_option linter.unusedVariables false

/-- What a map value answers while nothing old turns. -/
def Looks (w : World) (mv : Option Nat) (f : List UInt8 → Bool) : Prop :=
  ∀ (w' : World) (t : ByteArray), Below w.heap.size w w' → t.size ≤ maxLen → (Instr.lookup 22 (.map mv) (.string t) false).run Tryd.prog w' = .ok (.bool (f t.data.toList)) w'
/-- .. and its length. -/
def Lens (w : World) (mv : Option Nat) (sz : Nat) : Prop :=
  ∀ (w' : World) (ty : TypeId), Below w.heap.size w w' → (Builtin.len_ #[22] ty #[.map mv]).run Tryd.prog w' = .ok (.int .i64 sz) w'
/-- The names taken one after the other are at most sz. -/
def Few (f : List UInt8 → Bool) (sz : Nat) : Prop := ∀ (b : List UInt8) (k : Nat), (∀ j, 1 ≤ j → j ≤ k → f (cand b j) = true) → k ≤ sz
/-- What newSession answers. -/
def First (f : List UInt8 → Bool) (sz : Nat) (b : List UInt8) (N : Nat) (r : ByteArray) : Prop :=
  1 ≤ N ∧ N ≤ sz + 1 ∧ (∀ j, 1 ≤ j → j < N → f (cand b j) = true) ∧ f (cand b N) = false ∧ r.data.toList = cand b N

theorem newSession_any (p : ByteArray) (mv : Option Nat) (f : List UInt8 → Bool) (sz : Nat) (w : World) (hs : p.size ≤ 900000) (hsz : sz ≤ 5000)
    (hlook : Hid (Looks w mv f)) (hpig : Hid (Few f sz)) (htab : Hid (Lib.TabIs Tryd.prog w powName .u64 Lib.pow10Tab)) :
    Calls Tryd.prog 9 #[.string p, .map mv] w fun e w' => (∃ (N : Nat) (r : ByteArray), Hid (First f sz (p ++ ⟨#[115, 101, 115, 115, 105, 111, 110]⟩ : ByteArray).data.toList N r) ∧ e = .returned (.string r)) ∧ Below w.heap.size w w' := by
  have hz : (p ++ ⟨#[115, 101, 115, 115, 105, 111, 110]⟩ : ByteArray).size ≤ 1000000 := by rw [ByteArray.size_append]; show p.size + 7 ≤ _; omega
  have hc := unnamed_any (p ++ ⟨#[115, 101, 115, 115, 105, 111, 110]⟩) mv f sz w hz hsz hlook (hpig.out _) htab
  clear hz
  go_enter Tryd.func9, Tryd.ntmps9
  go_wp2_with fail
  refine hc.mono ?_
  rintro e w1 ⟨⟨N, r, h1, h2, h3, h4, h5, rfl⟩, hb⟩
  have H : Hid (First f sz (p ++ ⟨#[115, 101, 115, 115, 105, 111, 110]⟩ : ByteArray).data.toList N r) := ⟨h1, h2, h3, h4, h5⟩
  clear h1 h2 h3 h4 h5
  go_wp2_with fail
  go_ret
  exact ⟨⟨N, r, H, rfl⟩, hb⟩

theorem zzNew_any (p : ByteArray) (mv : Option Nat) (f : List UInt8 → Bool) (sz : Nat) (w : World) (hs : p.size ≤ 900000) (hsz : sz ≤ 5000)
    (hlook : Hid (Looks w mv f)) (hpig : Hid (Few f sz)) (htab : Hid (Lib.TabIs Tryd.prog w powName .u64 Lib.pow10Tab)) :
    Calls Tryd.prog 5 #[.string p, .map mv] w fun e w' => (∃ (N : Nat) (r : ByteArray), Hid (First f sz (p ++ ⟨#[115, 101, 115, 115, 105, 111, 110]⟩ : ByteArray).data.toList N r) ∧ e = .returned (.string r)) ∧ Below w.heap.size w w' := by
  have hc := newSession_any p mv f sz w hs hsz hlook hpig htab
  go_enter Tryd.func5, Tryd.ntmps5
  go_wp2_with fail
  refine hc.mono ?_
  rintro e w1 ⟨⟨N, r, H, rfl⟩, hb⟩
  go_wp2_with fail
  go_ret
  exact ⟨⟨N, r, H, rfl⟩, hb⟩

set_option maxHeartbeats 1000000 in
theorem law1_any (p : ByteArray) (mv : Option Nat) (f : List UInt8 → Bool) (sz : Nat) (w : World) (hp : p.size ≤ maxLen) (hszl : sz ≤ maxLen)
    (hlook : Hid (Looks w mv f)) (hlen : Hid (Lens w mv sz)) (hpig : Hid (Few f sz)) (htab : Hid (Lib.TabIs Tryd.prog w powName .u64 Lib.pow10Tab)) :
    Calls Tryd.prog 3 #[.string p, .map mv] w fun e w' => e = .returned (.bool true) ∧ Below w.heap.size w w' := by
  unfold maxLen at hp hszl
  by_cases h1 : 65536 < p.size
  · go_enter Tryd.func3, Tryd.ntmps3
    go_wp2_with fail
    go_ret
    exact ⟨rfl, Below.refl _ _⟩
  · have hl0 := hlen.out w
    have hl0' : ∀ ty, (Builtin.len_ #[22] ty #[.map mv]).run Tryd.prog w = .ok (.int .i64 sz) w := fun ty => hl0 ty (Below.refl _ _)
    clear hl0
    by_cases h2 : 4096 < sz
    · go_enter Tryd.func3, Tryd.ntmps3
      go_wp2_with fail
      go_ret
      exact ⟨rfl, Below.refl _ _⟩
    · have hc := zzNew_any p mv f sz w (by omega) (by omega) hlook hpig htab
      have d1 : decide (65536 < (p.size : Int)) = false := by simp; omega
      have d2 : decide (4096 < (sz : Int)) = false := by simp; omega
      go_enter Tryd.func3, Tryd.ntmps3
      go_wp2_with fail
      refine hc.mono ?_
      rintro e w1 ⟨⟨N, r, H, rfl⟩, hb⟩
      clear hc
      have hN1 := H.out.1
      have hN2 := H.out.2.1
      go_wp2_with fail
      have hbs : (p ++ ⟨#[115, 101, 115, 115, 105, 111, 110]⟩ : ByteArray).size ≤ 70000 := by rw [ByteArray.size_append]; show p.size + 7 ≤ _; omega
      generalize (p ++ ⟨#[115, 101, 115, 115, 105, 111, 110]⟩ : ByteArray) = b at *
      refine (index_any _ r N _ (by omega) hN1 (by omega) H.out.2.2.2.2).mono ?_
      rintro e w2 ⟨rfl, hw2⟩
      subst hw2
      have hlr : (Instr.lookup 22 (.map mv) (.string r) false).run Tryd.prog w2 = .ok (.bool false) w2 := by
        rw [hlook.out w2 r hb (by
          have e2 := cand_length b.data.toList N (by omega)
          rw [← H.out.2.2.2.2, ← bsize, ← bsize] at e2
          unfold maxLen
          omega), H.out.2.2.2.2, H.out.2.2.2.1]
      have hll : ∀ ty, (Builtin.len_ #[22] ty #[.map mv]).run Tryd.prog w2 = .ok (.int .i64 sz) w2 := fun ty => hlen.out w2 ty hb
      have d3 : decide ((sz : Int) + 1 < N) = false := by simp; omega
      clear hl0'
      by_cases hN : 2 ≤ N
      · have d4 : decide (2 ≤ (N : Int)) = true := by simp; omega
        have hlb : (Instr.lookup 22 (.map mv) (.string b) false).run Tryd.prog w2 = .ok (.bool true) w2 := by
          have e := H.out.2.2.1 1 (by omega) (by omega)
          rw [cand_one] at e
          rw [hlook.out w2 b hb (by unfold maxLen; omega), e]
        go_wp2_with fail
        clear hlr hll hlb
        go_loopw [9] (fun m wr => ∃ k : Nat, 2 ≤ k ∧ k ≤ N ∧ m = .int .i64 k ∧ Below w.heap.size w wr) (fun m _ => N - (intOf m).toNat)
        case atStart => exact ⟨2, by omega, hN, rfl, hb⟩
        case round =>
          obtain ⟨k, hk1, hk2, rfl, hbr⟩ := hrel
          by_cases hk : k < N
          · go_wp2_with fail
            refine (zzItoa_any k _ (by omega) (by omega)).mono ?_
            rintro e w3 ⟨rfl, hb3⟩
            have hb4 := hbr.trans (hb3.mono hbr.size)
            have hdl := dec_len5 k (by omega)
            have hl3 : (Instr.lookup 22 (.map mv) (.string (b ++ ⟨(Lib.decDigits k).toArray⟩)) false).run Tryd.prog w3 = .ok (.bool true) w3 := by
              have e := H.out.2.2.1 k (by omega) hk
              have e2 : (b ++ ⟨(Lib.decDigits k).toArray⟩ : ByteArray).data.toList = cand b.data.toList k := by rw [cand_more _ hk1]; simp
              rw [hlook.out w3 _ hb4 (by rw [bsize, e2]; have := cand_length b.data.toList k (by omega); rw [← bsize] at this; unfold maxLen; omega), e2, e]
            go_wp2_with fail
            go_roundw
            case rel => exact ⟨k + 1, by omega, by omega, by go_num, hb4⟩
            case measure => simp [intOf]; omega
          · go_wp2_with fail
            go_ret
            exact ⟨rfl, hbr⟩
      · have d4 : decide (2 ≤ (N : Int)) = false := by simp; omega
        go_wp2_with fail
        go_ret
        exact ⟨rfl, hb⟩
end Go.Proofs.Qxb6612236aDoor
