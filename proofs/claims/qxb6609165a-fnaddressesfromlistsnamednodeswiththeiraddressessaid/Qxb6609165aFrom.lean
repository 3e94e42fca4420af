/-
  (*Table).AddressesFrom walked.
-/
import Derived.Test.Qxb6609165aKeys
import Derived.Test.Qxb6609165aIter
import Derived.Test.Qxb6609165aFind
import Derived.WalkSmall
namespace Go.Proofs.Qxb6609165a
open Go Go.RowKit Go.Maps
open Go.Proofs (encStr)
set_option linter.unusedVariables false

theorem keys_calls (mb : Option Nat) (W : World) : Calls Try.prog 30 #[.map mb] W fun e w' => e = .returned (.func (.func 37) #[] #[.pointer (some ⟨W.heap.size, 0, none⟩)]) ∧ w' = W.alloc (.cells #[.map mb] 72) :=
  callsIn_wide.1 (Try.maps_Keys_30 mb W)

/-- The closure: zzLook in the book. -/
theorem clo_any (bb : Nat) (a : Option Addr) (n c : Nat) (f g : Nat → ByteArray) (x r : ByteArray) (w : World) (hn : n ≤ 9223372036854775807) (B : Nat) (hB : Hid (PairRow B w a n f g)) (hc : w.cell? ⟨bb, 0, none⟩ = some (.slice a n c)) (hr : Hid (look n f g x = r)) :
    Calls Try.prog 11 #[.string x, .pointer (some ⟨bb, 0, none⟩)] w fun e w' => e = .returned (.string r) ∧ w' = w := by
  go_enter Try.func11, Try.ntmps11
  go_wp2_with fail
  refine (look_any a n c f g x _ hn B hB).mono ?_
  rintro e w1 ⟨rfl, hw1⟩
  subst hw1
  rw [hr.out]
  go_wp2_with fail
  go_ret
  exact ⟨rfl, rfl⟩

theorem keys_len {w : World} {R : Value → Option (DataW Unit × List MemPlace)} {b k : Nat} {D : DataW Unit} (hown : w.ownsMap Try.prog 9 R b k D) : (strKeys D).length ≤ k := by
  have := hown.size_le
  obtain ⟨es, rfl, _⟩ := hown.tidy keyed9
  rw [Maps.size_eq] at this
  show (es.map _).length ≤ _
  rw [List.length_map]
  omega

theorem own_mono {w : World} {base base' : Nat} {e : TypeId} {size : Nat} {v : Value} {n : Nat} {xs : List Value} (h : w.ownsRow base e size v n xs) (hb : base' ≤ base) : w.ownsRow base' e size v n xs := by
  refine ⟨h.1, ?_⟩
  rcases h.2 with h2 | ⟨g, cap, cur, a, b, c⟩
  · exact .inl h2
  · exact .inr ⟨g, cap, cur, a, Nat.le_trans hb b, c⟩

/-- The slice that slices.Sorted hands back, by index. -/
theorem row_form {w : World} {base : Nat} {v : Value} {m : Nat} {xs : List Value} (h : w.ownsRow base 9 1 v m xs) (ks : List (List UInt8)) (hk : xs = ks.map encStr) :
    ∃ a c, v = .slice a m c ∧ ks.length = m ∧ m ≤ 9223372036854775807 ∧ Hid (∀ j, j < m → ∃ b, a = some ⟨b, 0, none⟩ ∧ b < w.heap.size ∧ w.cell? ⟨b, j, none⟩ = some (.string ⟨(ks.getD j []).toArray⟩)) := by
  subst hk
  have hl : ks.length = m := by have := h.1; simpa using this
  rcases h.2 with ⟨rfl, rfl⟩ | ⟨g, cap, cur, rfl, hb, hg, hnc, hcm, hcs, htake⟩
  · exact ⟨none, 0, rfl, hl, by omega, fun j hj => by omega⟩
  · refine ⟨some ⟨g, 0, none⟩, cap, rfl, hl, by unfold maxLen at hcm; omega, fun j hj => ⟨g, rfl, (Array.getElem?_eq_some_iff.1 hg).1, ?_⟩⟩
    rw [h.cellAt j (by omega)]
    simp [List.getD, show j < ks.length by omega]

set_option maxRecDepth 100000 in
set_option maxHeartbeats 4000000 in
theorem from_any (T n : Nat) (S : Nat → SlotM) (w : World) (hT : Hid (TabAt w T n S)) (B : Nat) (hB : B ≤ w.heap.size) (hF : Hid (∀ i, i < n → StrRow B w (S i).fa (S i).fn (S i).fs ∧ (S i).ld.size ≤ maxLen ∧ ∀ j, j < (S i).fn → ((S i).fs j).size ≤ maxLen))
    (hn : n + sumF S n ≤ 1048576) (bb : Nat) (a : Option Addr) (n2 c2 : Nat) (f2 g2 : Nat → ByteArray) (hn2 : n2 ≤ 1048576) (hbb : bb < w.heap.size) (hB2 : Hid (PairRow B w a n2 f2 g2)) (hcb : w.cell? ⟨bb, 0, none⟩ = some (.slice a n2 c2)) :
    Calls Try.prog 10 #[.pointer (some ⟨T, 0, none⟩), .func (.func 11) #[] #[.pointer (some ⟨bb, 0, none⟩)]] w fun e w' => ∃ (v : Value) (E : List (ByteArray × ByteArray)), e = .returned v ∧ Hid (Res S n (look n2 f2 g2) E) ∧ w'.ownsRow w.heap.size 36 2 v E.length (cellsE E) ∧ Hid (v = .slice none 0 0 ↔ E = []) ∧ Below w.heap.size w w' := by
  have hc := nodes_any T n S w hT B hB hF hn
  obtain ⟨i0, hi, hz0, hz1, hz2⟩ := info_parts info36
  go_enter Try.func10, Try.ntmps10
  go_wp2_with fail
  refine hc.mono ?_
  rintro e w1 ⟨b, k, D, rfl, hk, hown, hkeys, hbel1⟩
  clear hc
  have Hown : Hid (w1.ownsMap Try.prog 9 unitElem b k D) := hown
  clear hown
  go_wp2_with fail
  refine (keys_calls _ _).mono ?_
  rintro e w2 ⟨rfl, hw2⟩
  subst hw2
  go_wp2_with fail
  have hsD := Hown.out.size_le
  refine (callsIn_wide.1 (Try.slices_Sorted_keys_29_30 b k D unitElem w1 Hown.out (by unfold maxLen; omega) (by omega))).mono ?_
  rintro e w3 ⟨v, ss, rfl, hperm, hrow, hnil, hb3⟩
  have HRes : Hid (Res S n (look n2 f2 g2) (filt (look n2 f2 g2) (ss.mergeSort (fun x y => decide (x ≤ y))))) := res_of Hown.out hk hkeys.out _ hperm
  have hslen : ss.length ≤ 1048576 := by
    have h1 := hperm.length_eq
    have h2 := keys_len Hown.out
    omega
  have hbel3 : Below w.heap.size w w3 := hbel1.trans (((Below.refl w1.heap.size w1).alloc (Nat.le_refl _) _).trans (hb3.mono (by simp))|>.mono hbel1.size)
  obtain ⟨ks, hks⟩ : ∃ ks, ks = ss.mergeSort (fun x y => decide (x ≤ y)) := ⟨_, rfl⟩
  rw [← hks] at hrow HRes
  obtain ⟨sa, sc, rfl, hkl, hm, Hrow⟩ := row_form hrow ks rfl
  clear hrow hnil hb3 hks hperm hsD hbel1
  generalize ss.length = m at *
  clear ss
  go_wp2_with fail
  go_loopw [5, 14] (fun v i wr => ∃ (j : Nat), j ≤ m ∧ i = .int .i64 j ∧ wr.ownsRow w3.heap.size 36 2 v (filt (look n2 f2 g2) (ks.take j)).length (cellsE (filt (look n2 f2 g2) (ks.take j))) ∧ Hid (v = .slice none 0 0 ↔ filt (look n2 f2 g2) (ks.take j) = []) ∧ Below w3.heap.size w3 wr) (fun _ i _ => m - (intOf i).toNat)
  case atStart => exact ⟨0, Nat.zero_le _, rfl, World.ownsRow_nil _ _ _ _, by simp [Hid, filt], Below.refl _ _⟩
  case round =>
    obtain ⟨j, hj, rfl, hown, hnil, hbel⟩ := hrel
    by_cases hlt : j < m
    · obtain ⟨sb, rfl, hsb, hc⟩ := Hrow.out j hlt
      rw [← hbel.cell (p := ⟨sb, j, none⟩) hsb] at hc
      have htk : ks.take (j + 1) = ks.take j ++ [ks.getD j []] := by
        rw [List.take_add_one]
        simp [List.getD, show j < ks.length by omega]
      generalize ks.getD j [] = kj at *
      have hlen := Nat.le_trans (filt_len (look n2 f2 g2) (ks.take j)) (List.length_take_le _ _)
      have hB2' : Hid (PairRow B wr a n2 f2 g2) := (hB2.out.below (hbel3.mono hB)).below (hbel.mono (by have := hbel3.size; omega))
      have hcb' : wr.cell? ⟨bb, 0, none⟩ = some (.slice a n2 c2) := by
        rw [hbel.cell (p := ⟨bb, 0, none⟩) (by have := hbel3.size; simp only; omega), hbel3.cell (p := ⟨bb, 0, none⟩) hbb]; exact hcb
      by_cases hemp : look n2 f2 g2 ⟨kj.toArray⟩ = ByteArray.empty
      · have hclo := clo_any bb a n2 c2 f2 g2 ⟨kj.toArray⟩ ByteArray.empty wr (by omega) B hB2' hcb' hemp
        have HF : Hid (filt (look n2 f2 g2) (ks.take (j + 1)) = filt (look n2 f2 g2) (ks.take j)) := by rw [htk]; exact filt_snoc_no _ _ _ hemp
        clear hemp htk
        go_wp2_with fail
        refine hclo.mono ?_
        rintro e w4 ⟨rfl, hw4⟩
        subst hw4
        clear hclo
        go_wp2_with fail
        go_roundw
        case rel => exact ⟨j + 1, by omega, by go_num, by rw [HF.out]; exact hown, by rw [HF.out]; exact hnil, hbel⟩
        case measure => simp [intOf]; omega
      · obtain ⟨r, hr⟩ : ∃ r, look n2 f2 g2 ⟨kj.toArray⟩ = r := ⟨_, rfl⟩
        have hclo := clo_any bb a n2 c2 f2 g2 ⟨kj.toArray⟩ r wr (by omega) B hB2' hcb' hr
        have HF : Hid (filt (look n2 f2 g2) (ks.take (j + 1)) = filt (look n2 f2 g2) (ks.take j) ++ [(⟨kj.toArray⟩, r)]) := by rw [htk, ← hr]; exact filt_snoc_yes _ _ _ hemp
        rw [hr] at hemp
        have hie : r.toList.isEmpty = false := by rw [isEmpty_eq]; simpa using hemp
        clear hemp htk hr
        go_wp2_with fail
        refine hclo.mono ?_
        rintro e w4 ⟨rfl, hw4⟩
        subst hw4
        clear hclo
        have hbz := hbel.size
        go_wp2_with (at_builtin; refine wpList_append_own _ rfl _ _ 31 rfl w3.heap.size 36 i0 (.agg #[.string ByteArray.empty, .string ByteArray.empty]) 2 32 Try.underlying31 hi hz0 hz1 hz2 rfl (by decide) _ _ _ rfl (hown.alloc _) ⟨w4.heap.size, 0, none⟩ 1 1 [.string ⟨kj.toArray⟩, .string r] rfl rfl (cell_two_new _ _ _ _) (fun x hx => by simp at hx; rcases hx with rfl | rfl <;> rfl) (by unfold maxLen; omega) (by omega) (by simp; omega) ?_; intro v' w5 hown5 hgrow5 hnil5)
        go_roundw
        case rel => exact ⟨j + 1, by omega, by go_num, by rw [HF.out, cellsE_snoc, List.length_append]; exact hown5, by rw [HF.out]; simp [Hid, hnil5], Below.grown (hbel.alloc hbel.size _) hgrow5 (by simp; omega) (fun i hi => (hown.lt _ hi).1)⟩
        case measure => simp [intOf]; omega
    · have e : j = m := by omega
      subst e
      rw [List.take_of_length_le (by omega)] at hown hnil
      go_wp2_with fail
      go_ret
      exact ⟨_, _, rfl, HRes, own_mono hown hbel3.size, hnil, hbel3.trans (hbel.mono hbel3.size)⟩
end Go.Proofs.Qxb6609165a
