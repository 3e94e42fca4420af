/-
  FnNewSessionScriptOfThree walked.
-/
import Derived.Test.Qxb6612236aDoorFirst
import Derived.Test.Qxb6612236aDoorBytes2
namespace Go.Proofs.Qxb6612236aDoor
open Go Go.RowKit
open Go.ChangeShapes Go.WideShapes Go.ChangeAt Go.WideMaps Go.WideElems
set_option linter.unusedVariables false

theorem isT_put {D : DataW Unit} (h : Maps.IsMap D) (s t : List UInt8) : isT (D.put (.string s) (.lit (.bool true))) t = (decide (t = s) || isT D t) := by
  by_cases e : t = s
  · subst e
    rw [isT, Maps.atKey_put_same h (by trivial)]
    simp
  · rw [isT, Maps.atKey_put_other (by simpa using e)]
    simp [e, isT]

/-- After the first k names have been stored: what the map answers. -/
def Filled (D : DataW Unit) (ss : List ByteArray) (k : Nat) : Prop := ∀ t : List UInt8, isT D t = true ↔ ∃ s ∈ ss.take k, s.data.toList = t

/-- Behind 'st' steps of the script. -/
def Stepped (D : DataW Unit) (b : List UInt8) (ss : List ByteArray) (st L : Nat) : Prop :=
  (∀ s ∈ ss, isT D s.data.toList = true) ∧ (∀ j, 1 ≤ j → j ≤ L → isT D (cand b j) = true) ∧ (ss.length = 0 → L = st ∧ ∀ t, isT D t = true → ∃ j, 1 ≤ j ∧ j ≤ L ∧ t = cand b j)

theorem filled_start (ss : List ByteArray) : Filled (.map []) ss 0 := fun t => by
  simp [isT, DataW.atKey]

theorem filled_step {D : DataW Unit} (h : Maps.IsMap D) {ss : List ByteArray} {k : Nat} (hF : Filled D ss k) (hk : k < ss.length) : Filled (D.put (.string (ss.getD k ByteArray.empty).data.toList) (.lit (.bool true))) ss (k + 1) := fun t => by
  have e : ss.getD k ByteArray.empty = ss[k] := by rw [List.getD_eq_getElem?_getD, List.getElem?_eq_getElem hk]; rfl
  rw [isT_put h, e, List.take_succ_eq_append_getElem hk, Bool.or_eq_true, hF t, decide_eq_true_iff]
  constructor
  · rintro (rfl | ⟨s, hs, rfl⟩)
    · exact ⟨ss[k], List.mem_append_right _ (List.mem_singleton.2 rfl), rfl⟩
    · exact ⟨s, List.mem_append_left _ hs, rfl⟩
  · rintro ⟨s, hs, rfl⟩
    rw [List.mem_append, List.mem_singleton] at hs
    rcases hs with hs | rfl
    · exact .inr ⟨s, hs, rfl⟩
    · exact .inl rfl

theorem stepped_start {D : DataW Unit} {ss : List ByteArray} (b : List UInt8) (hF : Filled D ss ss.length) : Stepped D b ss 0 0 := by
  refine ⟨fun s hs => (hF _).2 ⟨s, by simpa using hs, rfl⟩, fun j h1 h2 => by omega, fun h => ⟨rfl, fun t ht => ?_⟩⟩
  obtain ⟨s, hs, _⟩ := (hF t).1 ht
  have : ss = [] := List.length_eq_zero_iff.1 h
  subst this
  simp at hs

/-- One step: the number goes up; without names it is the next; the name is new; and the map behind it. -/
theorem stepped_step {D : DataW Unit} (h : Maps.IsMap D) {b : List UInt8} {ss : List ByteArray} {st L sz N : Nat} {r : ByteArray} (hS : Stepped D b ss st L) (hF : First (isT D) sz b N r) :
    L < N ∧ (ss.length = 0 → N = st + 1) ∧ (∀ s ∈ ss, s.data.toList ≠ r.data.toList) ∧ Stepped (D.put (.string r.data.toList) (.lit (.bool true))) b ss (st + 1) N := by
  obtain ⟨s1, s2, s3⟩ := hS
  obtain ⟨f1, f2, f3, f4, f5⟩ := hF
  have hLN : L < N := by
    rcases Nat.lt_or_ge L N with h | h
    · exact h
    · have := s2 N f1 h
      rw [f4] at this
      cases this
  have hnext : ss.length = 0 → N = st + 1 := fun h0 => by
    obtain ⟨e, g⟩ := s3 h0
    subst e
    rcases Nat.lt_or_ge (L + 1) N with h | h
    · obtain ⟨j, j1, j2, j3⟩ := g _ (f3 (L + 1) (by omega) h)
      have := cand_inj b (by omega) j1 j3
      omega
    · omega
  refine ⟨hLN, hnext, fun s hs e => ?_, fun s hs => ?_, fun j j1 j2 => ?_, fun h0 => ⟨hnext h0, fun t ht => ?_⟩⟩
  · have := s1 s hs
    rw [e, f5, f4] at this
    cases this
  · rw [isT_put h, s1 s hs, Bool.or_true]
  · rw [isT_put h, f5]
    rcases Nat.lt_or_eq_of_le j2 with h3 | h3
    · rw [f3 j j1 h3, Bool.or_true]
    · rw [h3]; simp
  · rw [isT_put h, Bool.or_eq_true, decide_eq_true_iff] at ht
    rcases ht with ht | ht
    · exact ⟨N, f1, Nat.le_refl _, ht.trans f5⟩
    · obtain ⟨j, j1, j2, j3⟩ := (s3 h0).2 t ht
      exact ⟨j, j1, by omega, j3⟩

set_option maxHeartbeats 2000000 in
theorem law2_any (p : ByteArray) (a : Option Addr) (cap : Nat) (ss : List ByteArray) (w : World) (hp : p.size ≤ maxLen) (hlen : ss.length ≤ maxLen) (hS : Hid (Strs w a ss)) (hsz : Hid (∀ s ∈ ss, s.size ≤ maxLen))
    (htab : Hid (Lib.TabIs Tryd.prog w powName .u64 Lib.pow10Tab)) :
    Calls Tryd.prog 4 #[.string p, .slice a ss.length cap] w fun e w' => e = .returned (.bool true) ∧ Below w.heap.size w w' := by
  have hc := zzBytes2_any p a cap ss w hp hlen hS hsz
  unfold maxLen at hp hlen
  have hmm := @run_makeMap Tryd.prog
  go_enter Tryd.func4, Tryd.ntmps4
  go_wp2_with fail
  refine hc.mono ?_
  rintro e w1 ⟨⟨B, rfl, hB⟩, hw1⟩
  subst hw1
  clear hc
  cases B with
  | false =>
    go_wp2_with fail
    go_ret
    exact ⟨rfl, Below.refl _ _⟩
  | true =>
    have HB : Hid (∀ s ∈ ss, s.size ≤ 1048576) := hB rfl
    clear hB
    by_cases h1 : 65536 < p.size ∨ 4096 < ss.length
    · by_cases h2 : 65536 < p.size
      · have d1 : decide (65536 < (p.size : Int)) = true := by simp; omega
        clear h1
        go_wp2_with fail
        go_ret
        exact ⟨rfl, Below.refl _ _⟩
      · have d1 : decide (65536 < (p.size : Int)) = false := by simp; omega
        have d2 : decide (4096 < (ss.length : Int)) = true := by simp; omega
        have h3 : 4096 < ss.length := by omega
        clear h1
        go_wp2_with fail
        go_ret
        exact ⟨rfl, Below.refl _ _⟩
    · have d1 : decide (65536 < (p.size : Int)) = false := by simp; omega
      have d2 : decide (4096 < (ss.length : Int)) = false := by simp; omega
      have h2 : p.size ≤ 65536 := by omega
      have h3 : ss.length ≤ 4096 := by omega
      clear h1
      go_wp2_with fail
      go_loop [5, 6] (fun t i => ∃ (k : Nat) (n : Int), k ≤ ss.length ∧ i = .int .i64 k ∧ t = .int .i64 n ∧ 0 ≤ n ∧ n ≤ 200000 + 1048576 * (k : Int)) (fun _ i => ss.length - (intOf i).toNat)
      case atStart => exact ⟨0, _, Nat.zero_le _, rfl, rfl, by omega, by omega⟩
      case round =>
        obtain ⟨k, n, hk, rfl, rfl, hn0, hn1⟩ := hrel
        by_cases hlt : k < ss.length
        · obtain ⟨b, off, rfl, hbl, hc⟩ := hS.out k hlt
          have hck := hc k hlt
          have hm := HB.out _ (getD_mem ss k hlt)
          generalize ss.getD k ByteArray.empty = sk at *
          clear hc
          go_wp2_with fail
          go_round
          case rel => exact ⟨k + 1, _, by omega, by go_num, rfl, by omega, by omega⟩
          case measure => simp [intOf]; omega
        · by_cases h5 : 1048576 < n
          · go_wp2_with fail
            go_ret
            exact ⟨rfl, Below.refl _ _⟩
          · have d5 : decide (1048576 < n) = false := by simp; omega
            go_wp2_with fail
            have hown0 := World.ownsMap_made w1 Tryd.prog 9 (plainElem (H := Unit) Tryd.prog 4)
            have hbel0 : Below w1.heap.size w1 (w1.alloc (.map #[] 0)) := (Below.refl _ _).alloc (Nat.le_refl _) _
            clear hmm
            go_loopw [8] (fun i wr => ∃ (k : Nat) (D : DataW Unit), k ≤ ss.length ∧ i = .int .i64 k ∧ wr.ownsMap Tryd.prog 9 (plainElem Tryd.prog 4) w1.heap.size k D ∧ Hid (Filled D ss k) ∧ Below w1.heap.size w1 wr) (fun i _ => ss.length - (intOf i).toNat)
            case atStart => exact ⟨0, _, Nat.zero_le _, rfl, hown0, filled_start ss, hbel0⟩
            case round =>
              clear hown0 hbel0
              obtain ⟨k2, D, hk2, rfl, hown, hfil, hbel⟩ := hrel
              by_cases hlt2 : k2 < ss.length
              · obtain ⟨b, off, rfl, hbl, hc⟩ := hS.out k2 hlt2
                have hck := hc k2 hlt2
                rw [← hbel.cell (p := ⟨b, off + k2, none⟩) hbl] at hck
                have hm := HB.out _ (getD_mem ss k2 hlt2)
                have hst : Hid (Filled (D.put (.string (ss.getD k2 ByteArray.empty).data.toList) (.lit (.bool true))) ss (k2 + 1)) := filled_step hown.isMap hfil.out hlt2
                generalize ss.getD k2 ByteArray.empty = sk at *
                clear hc
                have hkey : keyOf Tryd.prog 9 (.string sk) = some (.string sk.data.toList) := keyOf_string_mk (s := sk) Tryd.underlying9 (by unfold maxLen; omega)
                go_wp2_with (at_mapUpdate; refine wpList_mapUpdate_own _ rfl _ _ _ 22 rfl 9 4 keyed9 Tryd.underlying22 _ w1.heap.size k2 _ rfl hown (by unfold maxLen; omega) _ _ _ rfl rfl hkey _ [] (plainElem_bool Tryd.underlying4 true) ?_; intro w3 hown3 hgrow3)
                go_roundw
                case rel => exact ⟨k2 + 1, _, by omega, by go_num, hown3, hst, hbel.grown hgrow3 hbel.size (fun j hj => by cases hj; exact Nat.le_refl _)⟩
                case measure => simp [intOf]; omega
              · have hstp : Hid (Stepped D (p ++ ⟨#[115, 101, 115, 115, 105, 111, 110]⟩ : ByteArray).data.toList ss 0 0) := stepped_start _ (by
                  have e : k2 = ss.length := by omega
                  rw [← e]; exact hfil.out)
                have hbs : (p ++ ⟨#[115, 101, 115, 115, 105, 111, 110]⟩ : ByteArray).size ≤ 70000 := by rw [ByteArray.size_append]; show p.size + 7 ≤ _; omega
                clear hfil
                have hown1 := hown.mono hk2
                clear hown
                go_wp2_with fail
                go_loopw [10, 11] (fun l t wr => ∃ (st L : Nat) (D : DataW Unit), st ≤ 3 ∧ l = .int .i64 L ∧ t = .int .i64 st ∧ L ≤ 5000 ∧ wr.ownsMap Tryd.prog 9 (plainElem Tryd.prog 4) w1.heap.size (ss.length + st) D ∧ Hid (Stepped D (p ++ ⟨#[115, 101, 115, 115, 105, 111, 110]⟩ : ByteArray).data.toList ss st L) ∧ Below w1.heap.size w1 wr) (fun _ t _ => 3 - (intOf t).toNat)
                case atStart => exact ⟨0, 0, D, by omega, rfl, rfl, by omega, hown1, hstp, hbel⟩
                case round =>
                  clear hown1 hstp hbel
                  clear D
                  obtain ⟨st, L, D, hst3, rfl, rfl, hL, hown, hstp, hbel⟩ := hrel
                  by_cases hst : st < 3
                  · have hsize := hown.size_le
                    have hc := zzNew_any p (some w1.heap.size) (isT D) (Maps.size D) _ (by omega) (by omega) (looks_own hown) (few_own hown) (tab_below hbel htab.out)
                    go_wp2_with fail
                    refine hc.mono ?_
                    rintro e w3 ⟨⟨N, r, H, rfl⟩, hb3⟩
                    clear hc
                    have hN1 := H.out.1
                    have hN2 := H.out.2.1
                    have hown3 := owned_below hown hb3
                    have hbel3 := hbel.trans (hb3.mono hbel.size)
                    clear hown hbel hb3
                    obtain ⟨q1, q2, q3, q4⟩ := stepped_step hown3.isMap hstp.out H.out
                    have Q2 : Hid (ss.length = 0 → N = st + 1) := q2
                    have Q3 : Hid (∀ s ∈ ss, s.data.toList ≠ r.data.toList) := q3
                    have Q4 : Hid (Stepped (D.put (.string r.data.toList) (.lit (.bool true))) (p ++ ⟨#[115, 101, 115, 115, 105, 111, 110]⟩ : ByteArray).data.toList ss (st + 1) N) := q4
                    clear q2 q3 q4 hstp
                    go_wp2_with fail
                    refine (index_any _ r N _ (by omega) hN1 (by omega) H.out.2.2.2.2).mono ?_
                    rintro e w4 ⟨rfl, hw4⟩
                    subst hw4
                    have hrl : r.size ≤ maxLen := by
                      have e2 := cand_length (p ++ ⟨#[115, 101, 115, 115, 105, 111, 110]⟩ : ByteArray).data.toList N (by omega)
                      rw [← H.out.2.2.2.2, ← bsize, ← bsize] at e2
                      unfold maxLen
                      omega
                    have d6 : decide (N ≤ L) = false := by simp; omega
                    have hkey : keyOf Tryd.prog 9 (.string r) = some (.string r.data.toList) := keyOf_string_mk (s := r) Tryd.underlying9 hrl
                    go_wp2_with fail
                    go_loop [15] (fun i => ∃ (k : Nat), k ≤ ss.length ∧ i = .int .i64 k) (fun i => ss.length - (intOf i).toNat)
                    case atStart => exact ⟨0, Nat.zero_le _, rfl⟩
                    case round =>
                      obtain ⟨k4, hk4, rfl⟩ := hrel
                      by_cases hlt4 : k4 < ss.length
                      · obtain ⟨b, off, rfl, hbl, hc⟩ := hS.out k4 hlt4
                        have hck := hc k4 hlt4
                        rw [← hbel3.cell (p := ⟨b, off + k4, none⟩) hbl] at hck
                        have hne := Q3.out _ (getD_mem ss k4 hlt4)
                        generalize ss.getD k4 ByteArray.empty = sk at *
                        clear hc
                        have hneB : (sk.toList == r.toList) = false := by rw [Lib.toList_data, Lib.toList_data]; simpa using hne
                        clear hne
                        go_wp2_with fail
                        go_round
                        case rel => exact ⟨k4 + 1, by omega, by go_num⟩
                        case measure => simp [intOf]; omega
                      · by_cases hz : ss.length = 0
                        · have hNs := Q2.out hz
                          have z1 : ((ss.length : Int) == 0) = true := by rw [hz]; rfl
                          have z2 : ((N : Int) != (st : Int) + 1) = false := by rw [hNs]; simp
                          have HNs : Hid (N = st + 1) := hNs
                          have Hz : Hid (ss.length = 0) := hz
                          clear hz hNs
                          go_wp2_with (at_mapUpdate; refine wpList_mapUpdate_own _ rfl _ _ _ 22 rfl 9 4 keyed9 Tryd.underlying22 _ w1.heap.size (ss.length + st) _ rfl hown3 (by unfold maxLen; omega) _ _ _ rfl rfl hkey _ [] (plainElem_bool Tryd.underlying4 true) ?_; intro w5 hown5 hgrow5)
                          go_roundw
                          case rel => exact ⟨st + 1, N, _, by omega, rfl, by go_num, by omega, hown5, Q4, hbel3.grown hgrow5 hbel3.size (fun j hj => by cases hj; exact Nat.le_refl _)⟩
                          case measure => simp [intOf]; omega
                        · have z1 : ((ss.length : Int) == 0) = false := by rw [beq_eq_false_iff_ne]; omega
                          clear hz
                          go_wp2_with (at_mapUpdate; refine wpList_mapUpdate_own _ rfl _ _ _ 22 rfl 9 4 keyed9 Tryd.underlying22 _ w1.heap.size (ss.length + st) _ rfl hown3 (by unfold maxLen; omega) _ _ _ rfl rfl hkey _ [] (plainElem_bool Tryd.underlying4 true) ?_; intro w5 hown5 hgrow5)
                          go_roundw
                          case rel => exact ⟨st + 1, N, _, by omega, rfl, by go_num, by omega, hown5, Q4, hbel3.grown hgrow5 hbel3.size (fun j hj => by cases hj; exact Nat.le_refl _)⟩
                          case measure => simp [intOf]; omega
                  · go_wp2_with fail
                    go_ret
                    exact ⟨rfl, hbel⟩
end Go.Proofs.Qxb6612236aDoor
