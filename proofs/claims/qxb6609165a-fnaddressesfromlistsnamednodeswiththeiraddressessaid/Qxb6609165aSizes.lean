/-
  zzAddrsBytes and zzSlotsBytes walked: a number in range and a bool; zzBytes.
-/
import Derived.Test.Qxb6609165aMem
namespace Go.Proofs.Qxb6609165a
open Go Go.RowKit
set_option linter.unusedVariables false

set_option maxRecDepth 100000 in
set_option maxHeartbeats 2000000 in
theorem addrs_any (t : Int) (a : Option Addr) (n c : Nat) (f g : Nat → ByteArray) (w : World) (ht : 0 ≤ t ∧ t ≤ 1048576) (hn : n ≤ 9223372036854775807) (B : Nat) (hB : Hid (PairRow B w a n f g))
    (hf : Hid (∀ j, j < n → (f j).size ≤ 9223372036854775807 ∧ (g j).size ≤ 9223372036854775807)) :
    Calls Try.prog 8 #[.int .i64 t, .slice a n c] w fun e w' => AnsAdd e ∧ w' = w := by
  have hc := add_any t n 32 w ht (by omega) (by omega)
  go_enter Try.func8, Try.ntmps8
  go_wp2_with fail
  refine hc.mono ?_
  rintro e w1 ⟨⟨m, b, rfl, hm⟩, hw1⟩
  subst hw1
  clear hc
  cases b with
  | true =>
    go_wp2_with fail
    go_ret2
    exact ⟨ansAdd_no, rfl⟩
  | false =>
    go_wp2_with fail
    go_loop [6, 7, 8] (fun r o i => ∃ (j : Nat) (q : Int), j ≤ n ∧ i = .int .i64 j ∧ r = .int .i64 q ∧ o = .bool false ∧ (0 ≤ q ∧ q ≤ 1048576)) (fun _ _ i => n - (intOf i).toNat)
    case atStart => exact ⟨0, m, Nat.zero_le _, rfl, rfl, rfl, hm⟩
    case round =>
      clear hm
      obtain ⟨j, q, hj, rfl, rfl, rfl, hq⟩ := hrel
      by_cases hlt : j < n
      · obtain ⟨b, off, rfl, hb, hc⟩ := hB.out j hlt
        obtain ⟨h1, h2⟩ := hc j hlt
        obtain ⟨s1, s2⟩ := hf.out j hlt
        clear hc
        generalize f j = fj at *
        generalize g j = gj at *
        go_wp2_with fail
        refine (add_any q fj.size 1 _ hq (by omega) (by omega)).mono ?_
        rintro e w2 ⟨⟨m2, b2, rfl, hm2⟩, hw2⟩
        subst hw2
        cases b2 with
        | true =>
          go_wp2_with fail
          go_ret2
          exact ⟨ansAdd_no, rfl⟩
        | false =>
          go_wp2_with fail
          refine (add_any m2 gj.size 1 _ hm2 (by omega) (by omega)).mono ?_
          rintro e w3 ⟨⟨m3, b3, rfl, hm3⟩, hw3⟩
          subst hw3
          cases b3 with
          | true =>
            go_wp2_with fail
            go_ret2
            exact ⟨ansAdd_no, rfl⟩
          | false =>
            go_wp2_with fail
            go_round
            case rel => exact ⟨j + 1, m3, by omega, by go_num, rfl, rfl, hm3⟩
            case measure => simp [intOf]; omega
      · go_wp2_with fail
        go_ret2
        exact ⟨ansAdd_yes q hq, rfl⟩

set_option maxRecDepth 100000 in
set_option maxHeartbeats 4000000 in
theorem slots_any (a : Option Addr) (n c : Nat) (S : Nat → SlotM) (w : World) (hn : n ≤ 9223372036854775807) (B : Nat) (hB : Hid (SlotRow B w a n S)) :
    Calls Try.prog 7 #[.int .i64 0, .slice a n c] w fun e w' => AnsAdd e ∧ w' = w := by
  have hc := add_any 0 n 64 w (by omega) (by omega) (by omega)
  go_enter Try.func7, Try.ntmps7
  go_wp2_with fail
  refine hc.mono ?_
  rintro e w1 ⟨⟨m, b, rfl, hm⟩, hw1⟩
  subst hw1
  clear hc
  cases b with
  | true =>
    go_wp2_with fail
    go_ret2
    exact ⟨ansAdd_no, rfl⟩
  | false =>
    go_wp2_with fail
    go_loop [6, 7, 8] (fun r o i => ∃ (j : Nat) (q : Int), j ≤ n ∧ i = .int .i64 j ∧ r = .int .i64 q ∧ o = .bool false ∧ (0 ≤ q ∧ q ≤ 1048576)) (fun _ _ i => n - (intOf i).toNat)
    case atStart => exact ⟨0, m, Nat.zero_le _, rfl, rfl, rfl, hm⟩
    case round =>
      clear hm
      obtain ⟨i, q, hi, rfl, rfl, rfl, hq⟩ := hrel
      by_cases hlt : i < n
      · obtain ⟨b, off, rfl, hb, hc⟩ := hB.out i hlt
        have s := hc i hlt
        clear hc
        have c1 := s.c1
        have c3 := s.c3
        have c4 := s.c4
        have hls := s.ls
        have hfl := s.fl
        have hnl := s.nl
        have HS : Hid (SlotAt B w1 b (off + i * 5) (S i)) := s
        clear s
        generalize S i = s at *
        go_wp2_with fail
        refine (add_any q s.ld.size 1 _ hq (by omega) (by omega)).mono ?_
        rintro e w2 ⟨⟨m2, b2, rfl, hm2⟩, hw2⟩
        subst hw2
        clear hq
        cases b2 with
        | true =>
          go_wp2_with fail
          go_ret2
          exact ⟨ansAdd_no, rfl⟩
        | false =>
          go_wp2_with fail
          refine (add_any m2 s.fn 16 _ hm2 (by omega) (by omega)).mono ?_
          rintro e w3 ⟨⟨m3, b3, rfl, hm3⟩, hw3⟩
          subst hw3
          clear hm2
          cases b3 with
          | true =>
            go_wp2_with fail
            go_ret2
            exact ⟨ansAdd_no, rfl⟩
          | false =>
            go_wp2_with fail
            go_loop [6, 7, 9] (fun r o i => ∃ (j : Nat) (q : Int), j ≤ s.fn ∧ i = .int .i64 j ∧ r = .int .i64 q ∧ o = .bool false ∧ (0 ≤ q ∧ q ≤ 1048576)) (fun _ _ i => s.fn - (intOf i).toNat)
            case atStart => exact ⟨0, m3, Nat.zero_le _, rfl, rfl, rfl, hm3⟩
            case round =>
              clear hm3
              obtain ⟨j, q, hj, rfl, rfl, rfl, hq⟩ := hrel
              by_cases hlt2 : j < s.fn
              · obtain ⟨fb, fo, hfa, _, hfc⟩ := HS.out.fr j hlt2
                have h1 := hfc j hlt2
                have h2 := HS.out.fss j hlt2
                clear hfc
                rw [hfa] at c3
                have HF : Hid (s.fa = some ⟨fb, fo, none⟩) := hfa
                clear hfa
                generalize s.fs j = fj at *
                go_wp2_with fail
                refine (add_any q fj.size 1 _ hq (by omega) (by omega)).mono ?_
                rintro e w4 ⟨⟨m4, b4, rfl, hm4⟩, hw4⟩
                subst hw4
                cases b4 with
                | true =>
                  go_wp2_with fail
                  go_ret2
                  exact ⟨ansAdd_no, rfl⟩
                | false =>
                  go_wp2_with fail
                  go_round
                  case rel => exact ⟨j + 1, m4, by omega, by go_num, rfl, rfl, hm4⟩
                  case measure => simp [intOf]; omega
              · go_wp2_with fail
                refine (add_any q s.nn 24 _ hq (by omega) (by omega)).mono ?_
                rintro e w5 ⟨⟨m5, b5, rfl, hm5⟩, hw5⟩
                subst hw5
                clear hq
                cases b5 with
                | true =>
                  go_wp2_with fail
                  go_ret2
                  exact ⟨ansAdd_no, rfl⟩
                | false =>
                  go_wp2_with fail
                  go_loop [6, 7, 10] (fun r o i => ∃ (j : Nat) (q : Int), j ≤ s.nn ∧ i = .int .i64 j ∧ r = .int .i64 q ∧ o = .bool false ∧ (0 ≤ q ∧ q ≤ 1048576)) (fun _ _ i => s.nn - (intOf i).toNat)
                  case atStart => exact ⟨0, m5, Nat.zero_le _, rfl, rfl, rfl, hm5⟩
                  case round =>
                    clear hm5
                    obtain ⟨j3, q, hj3, rfl, rfl, rfl, hq⟩ := hrel
                    by_cases hlt3 : j3 < s.nn
                    · obtain ⟨fb, fo, hfa, _, hfc⟩ := HS.out.nr j3 hlt3
                      have h1 := (hfc j3 hlt3).1
                      have h2 := HS.out.nss j3 hlt3
                      clear hfc
                      rw [hfa] at c4
                      have HF : Hid (s.na = some ⟨fb, fo, none⟩) := hfa
                      clear hfa
                      generalize s.nf j3 = fj at *
                      go_wp2_with fail
                      refine (add_any q fj.size 1 _ hq (by omega) (by omega)).mono ?_
                      rintro e w6 ⟨⟨m6, b6, rfl, hm6⟩, hw6⟩
                      subst hw6
                      cases b6 with
                      | true =>
                        go_wp2_with fail
                        go_ret2
                        exact ⟨ansAdd_no, rfl⟩
                      | false =>
                        go_wp2_with fail
                        go_round
                        case rel => exact ⟨j3 + 1, m6, by omega, by go_num, rfl, rfl, hm6⟩
                        case measure => simp [intOf]; omega
                    · go_wp2_with fail
                      go_round
                      case rel => exact ⟨i + 1, q, by omega, by go_num, rfl, rfl, hq⟩
                      case measure => simp [intOf]; omega
      · go_wp2_with fail
        go_ret2
        exact ⟨ansAdd_yes q hq, rfl⟩
end Go.Proofs.Qxb6609165a
