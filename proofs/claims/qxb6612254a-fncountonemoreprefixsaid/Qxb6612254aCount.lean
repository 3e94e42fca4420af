/-
  ZZcount and the two laws over it walked.
-/
import Derived.Test.Qxb6612254aRows
import Derived.WalkKit
import Derived.WalkSpells
import Derived.LoopTactic
import Derived.Laws.CopyOwn
import Derived.Laws.OwnMore
import Derived.Lib.SliceRun
namespace Go.Proofs.Qxb6612254a
open Go Go.RowKit
set_option linter.unusedVariables false

theorem info5 : (Try.prog.info? 5).map (fun i => (i.zero, i.size, i.bytes)) = some (some (.int .u8 0), 1, 1) := by kernel_rfl
theorem size5 : (Try.prog.info? 5).map (·.size) = some 1 := by kernel_rfl

set_option maxHeartbeats 400000 in
theorem count_any (s : Int) (a : Option Addr) (len cap : Nat) (w : World) (hs : 1 ≤ s) (hs2 : s ≤ 9223372036854775807) (hl : len ≤ 9223372036854775807) :
    Calls Try.prog 19 #[.int .i64 s, .slice a len cap] w fun e w' => e = .returned (.int .i64 ((len : Int) / s)) ∧ Below w.heap.size w w' := by
  have hq1 : 0 ≤ (len : Int) / s := Int.ediv_nonneg (by omega) (by omega)
  have hq2 : (len : Int) / s ≤ len := Int.ediv_le_self _ (by omega)
  have hq : wrap64 ((len : Int) / s) = (len : Int) / s := IntWalk.wrap64_in _ (by omega)
  go_enter Try.func19, Try.ntmps19
  go_wp2
  go_ret
  exact ⟨rfl, (Below.refl _ _).alloc (Nat.le_refl _) _⟩

/-- It answers a bool. -/
def AnsAny (e : Ending) : Prop := ∃ B, e = .returned (.bool B)
theorem ansAny (B : Bool) : AnsAny (.returned (.bool B)) := ⟨B, rfl⟩

theorem zzb18_any (s : Int) (a : Option Addr) (len cap : Nat) (w : World) (hl : len ≤ 9223372036854775807) :
    Calls Try.prog 18 #[.int .i64 s, .slice a len cap] w fun e w' => AnsAny e ∧ w' = w := by
  go_enter Try.func18, Try.ntmps18
  go_wp2
  all_goals
    go_ret
    exact ⟨ansAny _, rfl⟩
theorem zzb20_any (s : Int) (a : Option Addr) (len cap : Nat) (w : World) (hl : len ≤ 9223372036854775807) :
    Calls Try.prog 20 #[.int .i64 s, .slice a len cap] w fun e w' => AnsAny e ∧ w' = w := by
  go_enter Try.func20, Try.ntmps20
  go_wp2
  all_goals
    go_ret
    exact ⟨ansAny _, rfl⟩

theorem make_any (n : Nat) (h : n ≤ 4000000) (x : Int) (hx : x = n) : ∃ X : List Value, X.length = n ∧ ∀ W : World, (Instr.makeSlice 33 (.int .i64 x) (.int .i64 x)).run Try.prog W = .ok (.slice (some ⟨W.heap.size, 0, none⟩) n n) (W.alloc (.cells X.toArray 5)) := by
  obtain ⟨i0, hi, hz0, hz1, hz2⟩ := info_parts info5
  subst hx
  refine ⟨(madeCells #[.int .u8 0] (n * 1)).toList, ?_, fun W => ?_⟩
  · rw [Array.length_toList, size_madeCells]; omega
  · have hr := run_make (P := Try.prog) W 33 5 i0 (.int .u8 0) Try.underlying33 hi hz0 .i64 .i64 (n : Int) (n : Int) (by omega) (by omega) (by rw [hz2]; omega) (by omega)
    rw [hz1] at hr
    exact hr

/-- What came in: a byte slice. -/
structure InRow (w : World) (a : Option Addr) (c : Nat) (zs : List Int) : Prop where
  row : ∀ k, k < zs.length → ∃ b off, a = some ⟨b, off, none⟩ ∧ b < w.heap.size ∧ ∀ j, j < zs.length → w.cell? ⟨b, off + j, none⟩ = some (.int .u8 (zs.getD j 0))
  nil : a = none → c = 0 ∧ zs = []
  len : zs.length ≤ 9223372036854775807

/-- 'copy(dst, src)' into a row of the call's own. -/
theorem copy_any (w : World) (g : Nat) (cur : Array Value) (dLen dCap : Nat) (ad : Addr) (sCap : Nat) (zs : List Int) (hg : w.heap[g]? = some (.cells cur 5 (0, 0))) (hd : zs.length ≤ dLen) (hcur : dLen = cur.size)
    (hsrc : ∀ j, j < zs.length → w.cell? (ad.add j) = some (.int .u8 (zs.getD j 0))) :
    ∃ w', (Builtin.copy_ #[33, 33] 3 #[.slice (some ⟨g, 0, none⟩) dLen dCap, .slice (some ad) zs.length sCap]).run Try.prog w = .ok (.int .i64 zs.length) w' ∧ Below g w w' ∧ w'.heap.size = w.heap.size ∧ (zs.length = dLen → w'.heap[g]? = some (.cells (zs.map (Value.int .u8)).toArray 5 (0, 0))) := by
  have hr := run_copy_row (P := Try.prog) w 33 33 3 5 g 0 dLen dCap ad zs.length sCap cur 5 (zs.map (Value.int .u8)) Try.underlying33 size5 hg (by rw [List.length_map]; exact (Nat.min_eq_left hd).symm) (fun j v hj => by
    rw [List.getElem?_map, Option.map_eq_some_iff] at hj
    obtain ⟨z, hz, rfl⟩ := hj
    have hlt : j < zs.length := (List.getElem?_eq_some_iff.1 hz).1
    rw [hsrc j hlt, List.getD_eq_getElem?_getD, hz]
    rfl) (by rw [List.length_map]; omega) (ints_oneCell .u8 zs)
  refine ⟨_, hr.trans (by rw [List.length_map]; rfl), below_setRow (Below.refl g w) (Nat.le_refl _) _, by simp [World.setRow], fun e => ?_⟩
  rw [setRow_heap w g _ _ 5 _ hg, List.take_zero, List.nil_append, List.drop_eq_nil_of_le (by rw [Array.length_toList]; omega), List.append_nil]

theorem src_of {w : World} {ad : Addr} {c : Nat} {zs : List Int} (h : InRow w (some ad) c zs) {w' : World} (hb : Below w.heap.size w w') : ∀ j, j < zs.length → w'.cell? (ad.add j) = some (.int .u8 (zs.getD j 0)) := fun j hj => by
  obtain ⟨b, off, e, hlt, hc⟩ := h.row j hj
  obtain rfl := Option.some.inj e
  rw [Go.WideShapes.add_plain, hb.cell (p := ⟨b, off + j, none⟩) hlt]
  exact hc j hj

theorem div_is {len j : Nat} {s : Int} (h0 : 1 ≤ s) (h1 : 0 ≤ (len : Int) - j * s) (h2 : (len : Int) - j * s < s) : ((len : Int) / s == (j : Int)) = true := by
  rw [beq_iff_eq]
  have e : (len : Int) = ((len : Int) - j * s) + s * j := by rw [Int.mul_comm s j]; omega
  rw [e, Int.add_mul_ediv_left _ _ (by omega), Int.ediv_eq_zero_of_lt h1 h2]
  omega

theorem ret_true {b : Bool} (h : b = true) : Ending.returned (.bool b) = .returned (.bool true) := by rw [h]

set_option maxHeartbeats 1000000 in
theorem whole_any (s : Int) (a : Option Addr) (c : Nat) (zs : List Int) (w : World) (hs : -9223372036854775808 ≤ s ∧ s ≤ 9223372036854775807) (i0 : Hid (InRow w a c zs)) :
    Calls Try.prog 6 #[.int .i64 s, .slice a zs.length c] w fun e w' => e = .returned (.bool true) ∧ Below w.heap.size w w' := by
  have l0 := i0.out.len
  have hc := zzb18_any s a zs.length c w l0
  go_enter Try.func6, Try.ntmps6
  go_wp2_with fail
  refine hc.mono ?_
  rintro e w1 ⟨⟨B, rfl⟩, hw1⟩
  subst hw1
  clear hc
  cases B with
  | false =>
    go_wp2_with fail
    go_ret
    exact ⟨rfl, Below.refl _ _⟩
  | true =>
    by_cases b0 : 1048576 < zs.length
    · go_wp2_with fail
      go_ret
      exact ⟨rfl, Below.refl _ _⟩
    have d0 : decide (1048576 < (zs.length : Int)) = false := by simp; omega
    by_cases b1 : s < 1
    · go_wp2_with fail
      go_ret
      exact ⟨rfl, Below.refl _ _⟩
    have d1 : decide (s < 1) = false := by simp; omega
    have hnn : ∀ w' : World, (binOp .neq 33 (.slice a zs.length c) (.slice none 0 0)).run Try.prog w' = .ok (.bool (!a.isNone)) w' := fun w' => run_neq_slice_nil_any w' 33 5 a zs.length c 0 0 Try.underlying33
    obtain ⟨X, hXs, hmk⟩ := make_any zs.length (by omega) (zs.length : Int) rfl
    cases a with
    | none =>
      go_wp2_with fail
      refine (count_any s none zs.length c _ (by omega) (by omega) l0).mono ?_
      rintro e w2 ⟨rfl, hbel⟩
      clear hnn hmk
      go_wp2_with fail
      go_loop [7, 8] (fun k r => ∃ (j : Nat) (x : Int), k = .int .i64 j ∧ r = .int .i64 x ∧ 0 ≤ x ∧ x ≤ zs.length ∧ (j : Int) ≤ (zs.length : Int) - x ∧ Hid (x = (zs.length : Int) - j * s)) (fun _ r => (intOf r).toNat)
      case atStart => exact ⟨0, _, rfl, rfl, by omega, by omega, by omega, by show _ = _; simp⟩
      case round =>
        obtain ⟨j, x, rfl, rfl, hx0, hx1, hjx, HX⟩ := hrel
        by_cases hlt : s ≤ x
        · go_wp2_with fail
          go_round
          case rel => exact ⟨j + 1, x - s, by go_num, rfl, by omega, by omega, by omega, by show _ = _; rw [HX.out]; simp only [Int.natCast_add, Int.natCast_one, Int.add_mul]; omega⟩
          case measure => simp [intOf]; omega
        · go_wp2_with fail
          go_ret
          exact ⟨ret_true (div_is (by omega) (by rw [← HX.out]; omega) (by rw [← HX.out]; omega)), hbel⟩
    | some ad =>
      have hbel1 : Below w1.heap.size w1 (w1.alloc (.cells X.toArray 5)) := (Below.refl _ _).alloc (Nat.le_refl _) _
      obtain ⟨w2, hcp, hbel2, hsz2, _⟩ := copy_any (w1.alloc (.cells X.toArray 5)) w1.heap.size X.toArray zs.length zs.length ad c zs (heap_alloc_new w1 _) (Nat.le_refl _) (by simp [hXs]) (src_of i0.out hbel1)
      have hbel3 := hbel1.trans hbel2
      clear hbel1 hbel2
      go_wp2_with fail
      refine (count_any s _ zs.length _ _ (by omega) (by omega) l0).mono ?_
      rintro e w3 ⟨rfl, hbel4⟩
      have hbel := hbel3.trans (hbel4.mono hbel3.size)
      clear hnn hmk hcp hbel3 hbel4
      go_wp2_with fail
      go_loop [7, 8] (fun k r => ∃ (j : Nat) (x : Int), k = .int .i64 j ∧ r = .int .i64 x ∧ 0 ≤ x ∧ x ≤ zs.length ∧ (j : Int) ≤ (zs.length : Int) - x ∧ Hid (x = (zs.length : Int) - j * s)) (fun _ r => (intOf r).toNat)
      case atStart => exact ⟨0, _, rfl, rfl, by omega, by omega, by omega, by show _ = _; simp⟩
      case round =>
        obtain ⟨j, x, rfl, rfl, hx0, hx1, hjx, HX⟩ := hrel
        by_cases hlt : s ≤ x
        · go_wp2_with fail
          go_round
          case rel => exact ⟨j + 1, x - s, by go_num, rfl, by omega, by omega, by omega, by show _ = _; rw [HX.out]; simp only [Int.natCast_add, Int.natCast_one, Int.add_mul]; omega⟩
          case measure => simp [intOf]; omega
        · go_wp2_with fail
          go_ret
          exact ⟨ret_true (div_is (by omega) (by rw [← HX.out]; omega) (by rw [← HX.out]; omega)), hbel⟩

theorem one_more {len : Nat} {s : Int} (h0 : 1 ≤ s) : (((len : Int) + s) / s == (len : Int) / s + 1) = true := by
  rw [beq_iff_eq]
  have := Int.add_mul_ediv_right (len : Int) 1 (show s ≠ 0 by omega)
  rw [Int.one_mul] at this
  exact this

set_option maxHeartbeats 1000000 in
theorem more_any (s : Int) (a : Option Addr) (c : Nat) (zs : List Int) (w : World) (hs : -9223372036854775808 ≤ s ∧ s ≤ 9223372036854775807) (i0 : Hid (InRow w a c zs)) :
    Calls Try.prog 7 #[.int .i64 s, .slice a zs.length c] w fun e w' => e = .returned (.bool true) ∧ Below w.heap.size w w' := by
  have l0 := i0.out.len
  have hc := zzb20_any s a zs.length c w l0
  go_enter Try.func7, Try.ntmps7
  go_wp2_with fail
  refine hc.mono ?_
  rintro e w1 ⟨⟨B, rfl⟩, hw1⟩
  subst hw1
  clear hc
  cases B with
  | false =>
    go_wp2_with fail
    go_ret
    exact ⟨rfl, Below.refl _ _⟩
  | true =>
    by_cases b0 : 1048576 < zs.length
    · go_wp2_with fail
      go_ret
      exact ⟨rfl, Below.refl _ _⟩
    have d0 : decide (1048576 < (zs.length : Int)) = false := by simp; omega
    by_cases b1 : s < 1
    · have d1 : decide (s < 1) = true := by simp; omega
      go_wp2_with fail
      go_ret
      exact ⟨rfl, Below.refl _ _⟩
    have d1 : decide (s < 1) = false := by simp; omega
    by_cases b2 : 65536 < s
    · have d2 : decide (65536 < s) = true := by simp; omega
      go_wp2_with fail
      go_ret
      exact ⟨rfl, Below.refl _ _⟩
    have d2 : decide (65536 < s) = false := by simp; omega
    have hnn : ∀ w' : World, (binOp .neq 33 (.slice a zs.length c) (.slice none 0 0)).run Try.prog w' = .ok (.bool (!a.isNone)) w' := fun w' => run_neq_slice_nil_any w' 33 5 a zs.length c 0 0 Try.underlying33
    obtain ⟨X, hXs, hmk⟩ := make_any zs.length (by omega) (zs.length : Int) rfl
    obtain ⟨Y, hYs, hmk2⟩ := make_any (zs.length + s.toNat) (by omega) ((zs.length : Int) + s) (by omega)
    have hst : (s.toNat : Int) = s := Int.toNat_of_nonneg (by omega)
    obtain ⟨n, hn⟩ : ∃ n, n = s.toNat := ⟨_, rfl⟩
    rw [← hn] at hst hmk2 hYs
    have Hst : Hid ((n : Int) = s) := hst
    clear hn hst
    have hdv := one_more (len := zs.length) (s := s) (by omega)
    cases a with
    | none =>
      have hz0 : zs.length = 0 := by rw [(i0.out.nil rfl).2]; rfl
      have hcp : ∀ (W : World) (g : Nat), (Builtin.copy_ #[33, 33] 3 #[.slice (some ⟨g, 0, none⟩) (zs.length + n) (zs.length + n), .slice none zs.length c]).run Try.prog W = .ok (.int .i64 0) W := fun W g => run_copy_none (P := Try.prog) W 33 33 3 5 _ _ _ _ _ _ Try.underlying33 size5 (by rw [hz0]; exact Nat.min_eq_left (Nat.zero_le _))
      clear hz0 hmk
      go_wp2_with fail
      have hbel1 : Below w1.heap.size w1 (w1.alloc (.cells Y.toArray 5)) := (Below.refl _ _).alloc (Nat.le_refl _) _
      have hc1 := count_any s (some ⟨w1.heap.size, 0, none⟩) (zs.length + n) (zs.length + n) (w1.alloc (.cells Y.toArray 5)) (by omega) (by omega) (by have := Hst.out; omega)
      rw [Int.natCast_add, Hst.out] at hc1
      refine hc1.mono ?_
      rintro e w3 ⟨rfl, hb3⟩
      have hbel3 := hbel1.trans (hb3.mono (by simp))
      clear hc1 hcp hmk2 hbel1 hb3 hnn
      go_wp2_with fail
      refine (count_any s none zs.length c _ (by omega) (by omega) l0).mono ?_
      rintro e w4 ⟨rfl, hb4⟩
      have hbel4 := hbel3.trans (hb4.mono hbel3.size)
      have hq1 : 0 ≤ (zs.length : Int) / s := Int.ediv_nonneg (by omega) (by omega)
      have hq2 : (zs.length : Int) / s ≤ zs.length := Int.ediv_le_self _ (by omega)
      go_wp2_with fail
      go_ret
      exact ⟨rfl, hbel4⟩
    | some ad =>
      have hbel1 : Below w1.heap.size w1 (w1.alloc (.cells X.toArray 5)) := (Below.refl _ _).alloc (Nat.le_refl _) _
      obtain ⟨w2, hcp, hbel2, hsz2, hrow2⟩ := copy_any (w1.alloc (.cells X.toArray 5)) w1.heap.size X.toArray zs.length zs.length ad c zs (heap_alloc_new w1 _) (Nat.le_refl _) (by simp [hXs]) (src_of i0.out hbel1)
      have hbel3 := hbel1.trans hbel2
      have hg2 := hrow2 rfl
      have hH : w2.heap.size = w1.heap.size + 1 := by rw [hsz2]; simp
      clear hbel1 hbel2 hrow2 hsz2
      have hbelY : Below (w1.heap.size + 1) w2 (w2.alloc (.cells Y.toArray 5)) := (Below.refl _ _).alloc (by omega) _
      obtain ⟨w3, hcp3, hbel4, hsz3, _⟩ := copy_any (w2.alloc (.cells Y.toArray 5)) (w1.heap.size + 1) Y.toArray (zs.length + n) (zs.length + n) ⟨w1.heap.size, 0, none⟩ zs.length zs (by rw [← hH]; exact heap_alloc_new w2 _) (by omega) (by simp [hYs]) (fun j hj => by
        rw [Go.WideShapes.add_plain, hbelY.cell (p := ⟨w1.heap.size, 0 + j, none⟩) (by simp), Nat.zero_add]
        unfold World.cell?
        rw [hg2]
        simp [List.getElem?_eq_getElem hj, List.getD_eq_getElem?_getD])
      have hbel5 := (hbel3.trans (hbelY.mono (by omega))).trans (hbel4.mono (by omega))
      clear hbel3 hbelY hbel4 hg2
      go_wp2_with fail
      have hc1 := count_any s (some ⟨w1.heap.size + 1, 0, none⟩) (zs.length + n) (zs.length + n) w3 (by omega) (by omega) (by have := Hst.out; omega)
      rw [Int.natCast_add, Hst.out] at hc1
      refine hc1.mono ?_
      rintro e w4 ⟨rfl, hb4⟩
      have hbel6 := hbel5.trans (hb4.mono hbel5.size)
      clear hc1 hcp hcp3 hmk hmk2 hbel5 hb4 hnn hsz3 hH
      go_wp2_with fail
      refine (count_any s _ zs.length _ _ (by omega) (by omega) l0).mono ?_
      rintro e w5 ⟨rfl, hb5⟩
      have hbel7 := hbel6.trans (hb5.mono hbel6.size)
      have hq1 : 0 ≤ (zs.length : Int) / s := Int.ediv_nonneg (by omega) (by omega)
      have hq2 : (zs.length : Int) / s ≤ zs.length := Int.ediv_le_self _ (by omega)
      go_wp2_with fail
      go_ret
      exact ⟨rfl, hbel7⟩
end Go.Proofs.Qxb6612254a
