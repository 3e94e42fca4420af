/-
  FnListNameStringReadsBack walked.
-/
import Derived.Test.Qxb6612254aApart
namespace Go.Proofs.Qxb6612254a
open Go Go.RowKit
set_option linter.unusedVariables false

/-- Where the pieces stand in a text of five parts. -/
theorem piece_t (a : List UInt8) (r : List UInt8) (i : Nat) (h : i < a.length) : (a ++ r)[i]'(by rw [List.length_append]; omega) = a[i] := List.getElem_append_left h

theorem piece_p (a b r : List UInt8) (i : Nat) (h : i < b.length) : (a ++ 47 :: (b ++ r))[a.length + 1 + i]'(by simp; omega) = b[i] := by
  rw [List.getElem_append_right (by omega)]
  simp only [show a.length + 1 + i - a.length = i + 1 by omega, List.getElem_cons_succ]
  exact List.getElem_append_left h

theorem piece_e (a b c : List UInt8) (i : Nat) (h : i < c.length) : (a ++ 47 :: (b ++ 47 :: c))[a.length + b.length + 2 + i]'(by simp; omega) = c[i] := by
  rw [List.getElem_append_right (by omega)]
  simp only [show a.length + b.length + 2 + i - a.length = (b.length + 1 + i) + 1 by omega, List.getElem_cons_succ]
  rw [List.getElem_append_right (by omega)]
  simp only [show b.length + 1 + i - b.length = i + 1 by omega, List.getElem_cons_succ]

theorem piece_s1 (a r : List UInt8) : (a ++ 47 :: r)[a.length]'(by simp) = 47 := by
  rw [List.getElem_append_right (by omega)]
  simp

theorem piece_s2 (a b c : List UInt8) : (a ++ 47 :: (b ++ 47 :: c))[a.length + 1 + b.length]'(by simp; omega) = 47 := by
  rw [List.getElem_append_right (by omega)]
  simp only [show a.length + 1 + b.length - a.length = b.length + 1 by omega, List.getElem_cons_succ]
  rw [List.getElem_append_right (by omega)]
  simp

/-- The text S of the name (t, p, e). -/
structure Text (S t p e : ByteArray) : Prop where
  size : S.size = t.size + p.size + e.size + 2
  list : S.data.toList = t.data.toList ++ 47 :: (p.data.toList ++ 47 :: e.data.toList)

theorem text_of (t p e : ByteArray) : Text (t ++ ⟨#[47]⟩ ++ p ++ ⟨#[47]⟩ ++ e) t p e := ⟨name_size t p e, name_list t p e⟩

section
variable {S t p e : ByteArray} (T : Text S t p e)

theorem list_at {l : List UInt8} (h : S.data.toList = l) (i : Nat) (hi : i < S.size) : S[i] = l[i]'(by rw [← h, ← bsize]; exact hi) := by
  subst h
  rfl

theorem at_t (T : Text S t p e) (i : Nat) (h : i < t.size) : ∃ h2 : 0 + i < S.size, S[0 + i] = t[i] := by
  have hs := T.size
  refine ⟨by omega, ?_⟩
  rw [list_at T.list]
  simp only [Nat.zero_add]
  exact piece_t _ _ i (by rw [← bsize]; exact h)

theorem at_p (T : Text S t p e) (i : Nat) (h : i < p.size) : ∃ h2 : t.size + 1 + i < S.size, S[t.size + 1 + i] = p[i] := by
  have hs := T.size
  refine ⟨by omega, ?_⟩
  rw [list_at T.list]
  have := piece_p t.data.toList p.data.toList (47 :: e.data.toList) i (by rw [← bsize]; exact h)
  simp only [bsize t]
  exact this

theorem at_e (T : Text S t p e) (i : Nat) (h : i < e.size) : ∃ h2 : t.size + p.size + 2 + i < S.size, S[t.size + p.size + 2 + i] = e[i] := by
  have hs := T.size
  refine ⟨by omega, ?_⟩
  rw [list_at T.list]
  have := piece_e t.data.toList p.data.toList e.data.toList i (by rw [← bsize]; exact h)
  simp only [bsize t, bsize p]
  exact this

theorem slash1 (T : Text S t p e) (h : t.size < S.size) : S[t.size].toNat = 47 := by
  rw [list_at T.list]
  have := piece_s1 t.data.toList (p.data.toList ++ 47 :: e.data.toList)
  simp only [bsize t, this]
  rfl

theorem slash2 (T : Text S t p e) (h : t.size + 1 + p.size < S.size) : S[t.size + 1 + p.size].toNat = 47 := by
  rw [list_at T.list]
  have := piece_s2 t.data.toList p.data.toList e.data.toList
  simp only [bsize t, bsize p, this]
  rfl

theorem before1 (T : Text S t p e) (h : NoSlash t) : ∀ i (hi : i < S.size), i < t.size → S[i].toNat ≠ 47 := by
  intro i hi hlt
  obtain ⟨h2, e2⟩ := at_t T i hlt
  simp only [Nat.zero_add] at e2
  rw [e2]
  exact h i hlt

theorem behind2 (T : Text S t p e) (h : NoSlash e) : ∀ i (hi : i < S.size), t.size + 1 + p.size < i → S[i].toNat ≠ 47 := by
  intro i hi hlt
  have hs := T.size
  obtain ⟨j, rfl⟩ : ∃ j, i = t.size + p.size + 2 + j := ⟨i - (t.size + p.size + 2), by omega⟩
  have hj : j < e.size := by omega
  obtain ⟨h2, e2⟩ := at_e T j hj
  rw [e2]
  exact h j hj

theorem cut_t (T : Text S t p e) : S.extract 0 t.size = t := bytes_ext (by rw [Lib.extract_data, T.list, List.drop_zero, Nat.sub_zero, bsize t, List.take_left])
theorem cut_p (T : Text S t p e) : S.extract (t.size + 1) (t.size + 1 + p.size) = p := bytes_ext (by
  rw [Lib.extract_data, T.list, show t.size + 1 + p.size - (t.size + 1) = p.data.toList.length by rw [← bsize]; omega, ← List.drop_drop, bsize t, List.drop_left]
  simp)
theorem cut_e (T : Text S t p e) : S.extract (t.size + 1 + p.size + 1) S.size = e := bytes_ext (by
  have hs := T.size
  have e1 := bsize t
  have e2 := bsize p
  have e3 := bsize e
  rw [Lib.extract_data, T.list, show t.size + 1 + p.size + 1 = t.size + (1 + (p.size + 1)) by omega, ← List.drop_drop, bsize t, List.drop_left, ← List.drop_drop, ← List.drop_drop, bsize p]
  rw [show List.drop 1 (47 :: (p.data.toList ++ 47 :: e.data.toList)) = p.data.toList ++ 47 :: e.data.toList from rfl, List.drop_left]
  rw [show List.drop 1 (47 :: e.data.toList) = e.data.toList from rfl]
  exact List.take_of_length_le (by omega))
end

set_option maxRecDepth 100000 in
set_option maxHeartbeats 4000000 in
theorem reads_any (t p e : ByteArray) (w : World) (h0 : t.size ≤ 9223372036854775807) (h1 : p.size ≤ 9223372036854775807) (h2 : e.size ≤ 9223372036854775807) :
    Calls Try.prog 3 #[.string t, .string p, .string e] w fun r w' => r = .returned (.bool true) ∧ Grown w w' := by
  have hc := zzb8_any t p e w h0 h1 h2
  go_enter Try.func3, Try.ntmps3
  go_wp2_with fail
  refine hc.mono ?_
  rintro r w1 ⟨⟨B, rfl⟩, hw1⟩
  subst hw1
  clear hc
  cases B with
  | false =>
    go_wp2_with fail
    go_ret
    exact ⟨rfl, Grown.refl _⟩
  | true =>
    by_cases b0 : 1048576 < t.size
    · have d : decide (1048576 < (t.size : Int)) = true := by simp; omega
      go_wp2_with fail
      go_ret
      exact ⟨rfl, Grown.refl _⟩
    have d0 : decide (1048576 < (t.size : Int)) = false := by simp; omega
    by_cases b1 : 1048576 < p.size
    · have d : decide (1048576 < (p.size : Int)) = true := by simp; omega
      go_wp2_with fail
      go_ret
      exact ⟨rfl, Grown.refl _⟩
    have d1 : decide (1048576 < (p.size : Int)) = false := by simp; omega
    by_cases b2 : 1048576 < e.size
    · have d : decide (1048576 < (e.size : Int)) = true := by simp; omega
      go_wp2_with fail
      go_ret
      exact ⟨rfl, Grown.refl _⟩
    have d2 : decide (1048576 < (e.size : Int)) = false := by simp; omega
    by_cases b6 : 1048576 < t.size + p.size + e.size
    · have d : decide (1048576 < (t.size : Int) + p.size + e.size) = true := by simp; omega
      go_wp2_with fail
      go_ret
      exact ⟨rfl, Grown.refl _⟩
    have d6 : decide (1048576 < (t.size : Int) + p.size + e.size) = false := by simp; omega
    go_wp2_with fail
    refine (string_any t p e _ (by omega)).mono ?_
    rintro r w2 ⟨rfl, hw2⟩
    have hg : Hid (Grown w1 w2) := by rw [hw2]; exact (Grown.refl _).alloc _ _
    have T := text_of t p e
    generalize (t ++ ⟨#[47]⟩ ++ p ++ ⟨#[47]⟩ ++ e : ByteArray) = S at *
    have HT : Hid (Text S t p e) := T
    have hsz : S.size = t.size + p.size + e.size + 2 := T.size
    have Hsz : Hid (S.size = t.size + p.size + e.size + 2) := hsz
    have hs1 : t.size + p.size + e.size + 2 ≤ S.size := by omega
    have hs2 : S.size ≤ t.size + p.size + e.size + 2 := by omega
    have z1 : ((S.size : Int) != (t.size : Int) + p.size + e.size + 2) = false := by rw [bne_eq_false_iff_eq]; omega
    clear hw2 T hsz d0 d1 d2 d6
    have hi1 : ∀ W : World, (Instr.index 9 (.string S) (.int .i64 (t.size : Int))).run Try.prog W = .ok (.int .u8 47) W := fun W => by
      rw [run_index_string W 9 S .i64 _ Try.underlying9, dif_pos ⟨by omega, by omega⟩]
      have := slash1 HT.out (by omega)
      simp only [Int.toNat_natCast, this]
      rfl
    have hi2 : ∀ W : World, (Instr.index 9 (.string S) (.int .i64 ((t.size : Int) + 1 + (p.size : Int)))).run Try.prog W = .ok (.int .u8 47) W := fun W => by
      rw [show (t.size : Int) + 1 + (p.size : Int) = ((t.size + 1 + p.size : Nat) : Int) by omega, run_index_string W 9 S .i64 _ Try.underlying9, dif_pos ⟨by omega, by omega⟩]
      have := slash2 HT.out (by omega)
      simp only [Int.toNat_natCast, this]
      rfl
    go_wp2_with fail
    refine (at_any S 0 0 t _ (by omega) rfl (by omega) (by omega) (at_t HT.out)).mono ?_
    rintro r w3 ⟨rfl, m3, hw3⟩
    subst hw3
    go_wp2_with fail
    refine (at_any S ((t.size : Int) + 1) (t.size + 1) p _ (by omega) (by show _ = _; omega) (by omega) (by omega) (at_p HT.out)).mono ?_
    rintro r w3 ⟨rfl, m4, hw3⟩
    subst hw3
    go_wp2_with fail
    refine (at_any S ((t.size : Int) + p.size + 2) (t.size + p.size + 2) e _ (by omega) (by show _ = _; omega) (by omega) (by omega) (at_e HT.out)).mono ?_
    rintro r w3 ⟨rfl, m5, hw3⟩
    subst hw3
    clear hi1 hi2
    go_wp2_with fail
    by_cases n0 : NoSlash t
    · refine (has_no t _ h0 n0).mono ?_
      rintro r w3 ⟨rfl, hw3⟩
      subst hw3
      go_wp2_with fail
      by_cases n1 : NoSlash e
      · refine (has_no e _ h2 n1).mono ?_
        rintro r w3 ⟨rfl, hw3⟩
        subst hw3
        obtain ⟨m, hm⟩ : ∃ m, m = t.size + 1 + p.size := ⟨_, rfl⟩
        have hm1 : t.size + 1 + p.size ≤ m := by omega
        have hm2 : m ≤ t.size + 1 + p.size := by omega
        have Hl : Hid (∀ i (hi : i < S.size), m < i → S[i].toNat ≠ 47) := by rw [hm]; exact behind2 HT.out n1
        have Hl2 : ∀ h : m < S.size, S[m].toNat = 47 := by subst hm; exact slash2 HT.out
        have Hf : Hid (∀ i (hi : i < S.size), i < t.size → S[i].toNat ≠ 47) := before1 HT.out n0
        have ht1 : S.extract 0 t.size = t := cut_t HT.out
        have ht2 : S.extract (t.size + 1) m = p := by rw [hm]; exact cut_p HT.out
        have ht3 : S.extract (m + 1) S.size = e := by rw [hm]; exact cut_e HT.out
        have z2 : ((m : Int) != (S.size : Int) - e.size - 1) = false := by rw [bne_eq_false_iff_eq]; omega
        clear n0 n1 hm
        go_wp2_with fail
        refine (first_at S t.size _ (by omega) (by omega) Hf (slash1 HT.out (by omega))).mono ?_
        rintro r w3 ⟨rfl, hw3⟩
        subst hw3
        go_wp2_with fail
        refine (last_at S m _ (by omega) (by omega) Hl (Hl2 (by omega))).mono ?_
        rintro r w3 ⟨rfl, hw3⟩
        subst hw3
        clear Hl2
        go_wp2_with fail
        go_ret
        exact ⟨rfl, hg⟩
      · refine (has_yes e _ h2 n1).mono ?_
        rintro r w3 ⟨rfl, hw3⟩
        subst hw3
        clear n0 n1
        go_wp2_with fail
        go_ret
        exact ⟨rfl, hg⟩
    · refine (has_yes t _ h0 n0).mono ?_
      rintro r w3 ⟨rfl, hw3⟩
      subst hw3
      clear n0
      go_wp2_with fail
      go_ret
      exact ⟨rfl, hg⟩
end Go.Proofs.Qxb6612254a
