/-
  zzToTable walked.
-/
import Derived.Test.Qxb6609165aTabMem
namespace Go.Proofs.Qxb6609165a
open Go Go.RowKit
set_option linter.unusedVariables false

set_option maxRecDepth 100000 in
set_option maxHeartbeats 8000000 in
theorem table_any (x0 x1 : Int) (a : Option Addr) (n c : Nat) (S : Nat → SlotM) (a1 : Option Addr) (n1 cc1 : Nat) (f1 g1 : Nat → ByteArray) (w : World)
    (hn : n ≤ 1048576) (hn1 : n1 ≤ 1048576) (hnil : a = none → n = 0) (hB : Hid (SlotRow w.heap.size w a n S)) (hB1 : Hid (PairRow w.heap.size w a1 n1 f1 g1)) (hnn : Hid (∀ i, i < n → (S i).nn ≤ 1048576)) :
    Calls Try.prog 9 #[.int .i64 x0, .int .u64 x1, .slice a n c, .slice a1 n1 cc1] w fun e w' => ∃ T, e = .returned (.pointer (some ⟨T, 0, none⟩)) ∧ Hid (TabAt w' T n S) ∧ Below w.heap.size w w' := by
  have hne : ∀ w' : World, (binOp .neq 23 (.slice a n c) (.slice none 0 0)).run Try.prog w' = .ok (.bool (!a.isNone)) w' := fun w' => run_neq_slice_nil_any w' 23 41 a n c 0 0 Try.underlying23
  obtain ⟨X, hXs, hmk⟩ := make_gen Try.underlying54 info60 n (by omega) (by omega)
  cases a with
  | none =>
    obtain rfl := hnil rfl
    have hbw0 : Below w.heap.size w w := Below.refl _ _
    clear hmk
    have hne1 : ∀ w' : World, (binOp .neq 24 (.slice a1 n1 cc1) (.slice none 0 0)).run Try.prog w' = .ok (.bool (!a1.isNone)) w' := fun w' => run_neq_slice_nil_any w' 24 66 a1 n1 cc1 0 0 Try.underlying24
    go_enter Try.func9, Try.ntmps9
    cases a1 with
    | none =>
      go_wp2
      go_ret
      exact ⟨_, rfl, tab_close (a' := none) (fun k hk => absurd hk (Nat.not_lt_zero k)) (Below.refl _ _) _ _ _, hbw0.alloc hbw0.size _⟩
    | some ad1 =>
      obtain ⟨Z, hZs, hmk3⟩ := make_gen Try.underlying31 info36 n1 (by omega) (by omega)
      have hRZ : Room (w.alloc (.cells Z 36)) w.heap.size (n1 * 2) := by rw [← hZs]; exact room_new w Z 36
      have hbZ : Below w.heap.size w (w.alloc (.cells Z 36)) := (Below.refl _ _).alloc (Nat.le_refl _) _
      go_wp2
      clear hmk3
      go_loopw [14] (fun i w2 => ∃ j : Nat, j ≤ n1 ∧ i = .int .i64 j ∧ Hid (Room w2 w.heap.size (n1 * 2)) ∧ Below w.heap.size w w2) (fun i _ => n1 - (intOf i).toNat)
      case atStart => exact ⟨0, Nat.zero_le _, rfl, hRZ, hbZ⟩
      case round =>
        clear hRZ hbZ
        obtain ⟨j, hj, rfl, hR, hb3⟩ := hrel
        have hbw := hbw0.trans (hb3.mono hbw0.size)
        by_cases hlt1 : j < n1
        · obtain ⟨b1, off1, had1, hb1, hc1⟩ := hB1.out j hlt1
          obtain rfl := Option.some.inj had1
          obtain ⟨k1, k2⟩ := hc1 j hlt1
          rw [← hbw.cell (p := ⟨b1, off1 + j * 2, none⟩) hb1] at k1
          rw [← hbw.cell (p := ⟨b1, off1 + j * 2 + 1, none⟩) hb1] at k2
          clear hc1 had1
          obtain ⟨v0, r0⟩ := hR.out.cell (j * 2) (by omega)
          obtain ⟨v1, r1⟩ := hR.out.cell (j * 2 + 1) (by omega)
          have hfz := hR.out.open_
          generalize f1 j = fj at *
          generalize g1 j = gj at *
          go_wp2
          go_region
          go_wp2
          go_roundw
          case rel => exact ⟨j + 1, by omega, by go_num, hR.out.put2 (j * 2) (.string fj) (.string gj), below2 hb3 (Nat.le_refl _) (j * 2) (.string fj) (.string gj)⟩
          case measure => simp [intOf]; omega
        · go_wp2
          go_ret
          exact ⟨_, rfl, tab_close (a' := none) (fun k hk => absurd hk (Nat.not_lt_zero k)) hb3 _ _ _, hbw.alloc hbw.size _⟩
  | some ad =>
    have hM0 : Made (w.alloc (.cells X 60)) w.heap.size n S 0 := ⟨by rw [← hXs]; exact room_new w X 60, fun j hj => by omega, fun j hj => by omega, fun j hj => by omega, fun j hj => by omega, fun j hj => by omega⟩
    have hb0 : Below w.heap.size w (w.alloc (.cells X 60)) := (Below.refl _ _).alloc (Nat.le_refl _) _
    go_enter Try.func9, Try.ntmps9
    go_wp2
    go_loopw [10, 11, 12] (fun i _ _ wr => ∃ j : Nat, j ≤ n ∧ i = .int .i64 j ∧ Hid (Made wr w.heap.size n S j) ∧ Below w.heap.size w wr) (fun i _ _ _ => n - (intOf i).toNat)
    case atStart => exact ⟨0, Nat.zero_le _, rfl, hM0, hb0⟩
    case round =>
      clear hM0 hb0 hmk hne
      obtain ⟨i, hi, rfl, hM, hbel⟩ := hrel
      generalize wr = wo at *
      by_cases hlt : i < n
      · obtain ⟨b, off, had, hb, hc⟩ := hB.out i hlt
        obtain rfl := Option.some.inj had
        obtain ⟨b', off', had', hb', hc'⟩ := SlotRow.below hB.out hbel i hlt
        obtain ⟨rfl, rfl⟩ : b' = b ∧ off' = off := by simpa using had'.symm
        have sa := hc' i hlt
        clear hc hc' had had'
        have hne : ∀ w' : World, (binOp .neq 39 (.slice (S i).na (S i).nn (S i).nc) (.slice none 0 0)).run Try.prog w' = .ok (.bool (!(S i).na.isNone)) w' := fun w' => run_neq_slice_nil_any w' 39 53 _ _ _ 0 0 Try.underlying39
        have c4 := sa.c4
        have hnni := hnn.out i hlt
        have HSA : Hid (SlotAt w.heap.size wo b' (off' + i * 5) (S i)) := sa
        clear sa
        have hstep : Hid (∀ W : World, Made W w.heap.size n S i → ∀ (na : Option Addr) (nn nc : Nat), Made (put5 W w.heap.size (i * 5) (.int .i64 (S i).id) (.string (S i).ld) (.int .u64 (S i).ep) (.slice (S i).fa (S i).fn (S i).fc) (.slice na nn nc)).drew w.heap.size n S (i + 1)) := fun W h na nn nc => made_step h hlt na nn nc
        generalize S i = s at *
        cases hna : s.na with
        | none =>
          have c0 := HSA.out.c0
          have c1 := HSA.out.c1
          have c2 := HSA.out.c2
          have c3 := HSA.out.c3
          obtain ⟨v0, r0⟩ := hM.out.room.cell (i * 5) (by omega)
          obtain ⟨v1, r1⟩ := hM.out.room.cell (i * 5 + 1) (by omega)
          obtain ⟨v2, r2⟩ := hM.out.room.cell (i * 5 + 2) (by omega)
          obtain ⟨v3, r3⟩ := hM.out.room.cell (i * 5 + 3) (by omega)
          obtain ⟨v4, r4⟩ := hM.out.room.cell (i * 5 + 4) (by omega)
          have hfz := hM.out.room.open_
          rw [hna] at hne c4
          have HN : Hid (s.na = none) := hna
          clear hna
          go_wp2
          go_region
          go_wp2
          go_roundw
          case rel => exact ⟨i + 1, by omega, by go_num, hstep.out wo hM.out _ _ _, below5 hbel (Nat.le_refl _) _ _ _ _ _ _⟩
          case measure => simp [intOf]; omega
        | some nad =>
          rw [hna] at hne c4
          have HN : Hid (s.na = some nad) := hna
          clear hna
          obtain ⟨Y, hYs, hmk⟩ := make_gen Try.underlying58 info49 s.nn (by omega) (by omega)
          have hRN : Room (wo.alloc (.cells Y 49)) wo.heap.size (s.nn * 2) := by rw [← hYs]; exact room_new wo Y 49
          have hbN : Below wo.heap.size wo (wo.alloc (.cells Y 49)) := (Below.refl _ _).alloc (Nat.le_refl _) _
          go_wp2
          clear hmk
          go_loopw [12] (fun i w2 => ∃ j : Nat, j ≤ s.nn ∧ i = .int .i64 j ∧ Hid (Room w2 wo.heap.size (s.nn * 2)) ∧ Below wo.heap.size wo w2) (fun i _ => s.nn - (intOf i).toNat)
          case atStart => exact ⟨0, Nat.zero_le _, rfl, hRN, hbN⟩
          case round =>
            clear hRN hbN
            obtain ⟨j, hj, rfl, hR, hb2⟩ := hrel
            have hwN : b' < wo.heap.size := Nat.lt_of_lt_of_le hb' hbel.size
            by_cases hlt2 : j < s.nn
            · obtain ⟨nb, no, hnad, hnb, hnc⟩ := HSA.out.nr j hlt2
              have hnbN : nb < wo.heap.size := Nat.lt_of_lt_of_le hnb hbel.size
              obtain ⟨k1, k2⟩ := hnc j hlt2
              rw [← hb2.cell (p := ⟨nb, no + j * 2, none⟩) hnbN] at k1
              rw [← hb2.cell (p := ⟨nb, no + j * 2 + 1, none⟩) hnbN] at k2
              rw [← hb2.cell (p := ⟨b', off' + i * 5 + 4, none⟩) hwN] at c4
              obtain rfl := Option.some.inj (HN.out.symm.trans hnad)
              clear hnc hnad
              obtain ⟨v0, r0⟩ := hR.out.cell (j * 2) (by omega)
              obtain ⟨v1, r1⟩ := hR.out.cell (j * 2 + 1) (by omega)
              have hfz := hR.out.open_
              generalize s.nf j = fj at *
              generalize s.ng j = gj at *
              go_wp2
              go_region
              go_wp2
              go_roundw
              case rel => exact ⟨j + 1, by omega, by go_num, hR.out.put2 (j * 2) (.string fj) (.int .u64 gj), below2 hb2 (Nat.le_refl _) (j * 2) (.string fj) (.int .u64 gj)⟩
              case measure => simp [intOf]; omega
            · have hM2 : Made wr w.heap.size n S i := hM.out.below hb2 hM.out.room.lt
              have hbel2 := hbel.trans (hb2.mono hbel.size)
              have c0 := HSA.out.c0
              have c1 := HSA.out.c1
              have c2 := HSA.out.c2
              have c3 := HSA.out.c3
              rw [← hb2.cell (p := ⟨b', off' + i * 5, none⟩) hwN] at c0
              rw [← hb2.cell (p := ⟨b', off' + i * 5 + 1, none⟩) hwN] at c1
              rw [← hb2.cell (p := ⟨b', off' + i * 5 + 2, none⟩) hwN] at c2
              rw [← hb2.cell (p := ⟨b', off' + i * 5 + 3, none⟩) hwN] at c3
              rw [← hb2.cell (p := ⟨b', off' + i * 5 + 4, none⟩) hwN] at c4
              obtain ⟨v0, r0⟩ := hM2.room.cell (i * 5) (by omega)
              obtain ⟨v1, r1⟩ := hM2.room.cell (i * 5 + 1) (by omega)
              obtain ⟨v2, r2⟩ := hM2.room.cell (i * 5 + 2) (by omega)
              obtain ⟨v3, r3⟩ := hM2.room.cell (i * 5 + 3) (by omega)
              obtain ⟨v4, r4⟩ := hM2.room.cell (i * 5 + 4) (by omega)
              have hfz := hM2.room.open_
              have HM2 : Hid (Made wr w.heap.size n S i) := hM2
              clear hM2
              go_wp2
              go_region
              go_wp2
              go_roundw
              case rel => exact ⟨i + 1, by omega, by go_num, hstep.out wr HM2.out _ _ _, below5 hbel2 (Nat.le_refl _) _ _ _ _ _ _⟩
              case measure => simp [intOf]; omega
      · have hMn : Hid (∀ k, k < n → ∃ g, some (⟨w.heap.size, 0, none⟩ : Addr) = some ⟨g, 0, none⟩ ∧ Made wo g n S n) := fun k hk => ⟨w.heap.size, rfl, by
          have e : i = n := by omega
          rw [← e]
          have := hM.out
          rw [e] at this ⊢
          exact this⟩
        clear hM
        have hne1 : ∀ w' : World, (binOp .neq 24 (.slice a1 n1 cc1) (.slice none 0 0)).run Try.prog w' = .ok (.bool (!a1.isNone)) w' := fun w' => run_neq_slice_nil_any w' 24 66 a1 n1 cc1 0 0 Try.underlying24
        cases a1 with
        | none =>
          go_wp2
          go_ret
          exact ⟨_, rfl, tab_close (a' := some ⟨w.heap.size, 0, none⟩) hMn.out (Below.refl _ _) _ _ _, hbel.alloc hbel.size _⟩
        | some ad1 =>
          obtain ⟨Z, hZs, hmk3⟩ := make_gen Try.underlying31 info36 n1 (by omega) (by omega)
          have hRZ : Room (wo.alloc (.cells Z 36)) wo.heap.size (n1 * 2) := by rw [← hZs]; exact room_new wo Z 36
          have hbZ : Below wo.heap.size wo (wo.alloc (.cells Z 36)) := (Below.refl _ _).alloc (Nat.le_refl _) _
          go_wp2
          clear hmk3
          go_loopw [14] (fun i w2 => ∃ j : Nat, j ≤ n1 ∧ i = .int .i64 j ∧ Hid (Room w2 wo.heap.size (n1 * 2)) ∧ Below wo.heap.size wo w2) (fun i _ => n1 - (intOf i).toNat)
          case atStart => exact ⟨0, Nat.zero_le _, rfl, hRZ, hbZ⟩
          case round =>
            clear hRZ hbZ
            obtain ⟨j, hj, rfl, hR, hb3⟩ := hrel
            have hbw := hbel.trans (hb3.mono hbel.size)
            by_cases hlt1 : j < n1
            · obtain ⟨b1, off1, had1, hb1, hc1⟩ := hB1.out j hlt1
              obtain rfl := Option.some.inj had1
              obtain ⟨k1, k2⟩ := hc1 j hlt1
              rw [← hbw.cell (p := ⟨b1, off1 + j * 2, none⟩) hb1] at k1
              rw [← hbw.cell (p := ⟨b1, off1 + j * 2 + 1, none⟩) hb1] at k2
              clear hc1 had1
              obtain ⟨v0, r0⟩ := hR.out.cell (j * 2) (by omega)
              obtain ⟨v1, r1⟩ := hR.out.cell (j * 2 + 1) (by omega)
              have hfz := hR.out.open_
              generalize f1 j = fj at *
              generalize g1 j = gj at *
              go_wp2
              go_region
              go_wp2
              go_roundw
              case rel => exact ⟨j + 1, by omega, by go_num, hR.out.put2 (j * 2) (.string fj) (.string gj), below2 hb3 (Nat.le_refl _) (j * 2) (.string fj) (.string gj)⟩
              case measure => simp [intOf]; omega
            · go_wp2
              go_ret
              exact ⟨_, rfl, tab_close (a' := some ⟨w.heap.size, 0, none⟩) hMn.out hb3 _ _ _, hbw.alloc hbw.size _⟩
end Go.Proofs.Qxb6609165a
