/-
  FnListNameStringTellsNamesApart walked.
-/
import Derived.Test.Qxb6612254aNames
namespace Go.Proofs.Qxb6612254a
open Go Go.RowKit
set_option linter.unusedVariables false

theorem split_first (x : UInt8) : ∀ (a c b d : List UInt8), x ∉ a → x ∉ c → a ++ x :: b = c ++ x :: d → a = c ∧ b = d
  | [], [], b, d, _, _, h => ⟨rfl, by simpa using h⟩
  | [], y :: c, b, d, _, h2, h => by
    simp only [List.nil_append, List.cons_append, List.cons.injEq] at h
    exact absurd (by rw [h.1]; exact List.mem_cons_self) h2
  | y :: a, [], b, d, h1, _, h => by
    simp only [List.nil_append, List.cons_append, List.cons.injEq] at h
    exact absurd (by rw [← h.1]; exact List.mem_cons_self) h1
  | y :: a, z :: c, b, d, h1, h2, h => by
    simp only [List.cons_append, List.cons.injEq] at h
    obtain ⟨e1, e2⟩ := split_first x a c b d (fun m => h1 (List.mem_cons_of_mem _ m)) (fun m => h2 (List.mem_cons_of_mem _ m)) h.2
    exact ⟨by rw [h.1, e1], e2⟩

theorem split_last (x : UInt8) (a c b d : List UInt8) (h1 : x ∉ b) (h2 : x ∉ d) (h : a ++ x :: b = c ++ x :: d) : a = c ∧ b = d := by
  have h' := congrArg List.reverse h
  simp only [List.reverse_append, List.reverse_cons, List.append_assoc, List.cons_append, List.nil_append] at h'
  obtain ⟨e1, e2⟩ := split_first x b.reverse d.reverse a.reverse c.reverse (by simpa using h1) (by simpa using h2) h'
  exact ⟨List.reverse_inj.1 e2, List.reverse_inj.1 e1⟩

theorem bsize (t : ByteArray) : t.size = t.data.toList.length := Array.length_toList.symm
theorem bytes_ext {a b : ByteArray} (h : a.data.toList = b.data.toList) : a = b := by
  cases a; cases b
  simp only [ByteArray.mk.injEq]
  exact Array.toList_inj.1 h
theorem byte_at (s : ByteArray) (i : Nat) (h : i < s.size) : s[i] = s.data.toList[i]'(by rw [← bsize]; exact h) := rfl

theorem noslash_mem {s : ByteArray} (h : NoSlash s) : (47 : UInt8) ∉ s.data.toList := fun m => by
  obtain ⟨i, hi, e⟩ := List.getElem_of_mem m
  have hi' : i < s.size := by rw [bsize]; exact hi
  have := h i hi'
  rw [byte_at s i hi', e] at this
  exact this rfl

theorem name_list (t p e : ByteArray) : (t ++ ⟨#[47]⟩ ++ p ++ ⟨#[47]⟩ ++ e : ByteArray).data.toList = t.data.toList ++ 47 :: (p.data.toList ++ 47 :: e.data.toList) := by
  simp

theorem names_inj {t p e t2 p2 e2 : ByteArray} (h1 : NoSlash t) (h2 : NoSlash e) (h3 : NoSlash t2) (h4 : NoSlash e2) (h : (t ++ ⟨#[47]⟩ ++ p ++ ⟨#[47]⟩ ++ e : ByteArray).data.toList = (t2 ++ ⟨#[47]⟩ ++ p2 ++ ⟨#[47]⟩ ++ e2 : ByteArray).data.toList) : t = t2 ∧ p = p2 ∧ e = e2 := by
  rw [name_list, name_list] at h
  obtain ⟨e1, r⟩ := split_first 47 _ _ _ _ (noslash_mem h1) (noslash_mem h3) h
  obtain ⟨e2', e3⟩ := split_last 47 _ _ _ _ (noslash_mem h2) (noslash_mem h4) r
  exact ⟨bytes_ext e1, bytes_ext e2', bytes_ext e3⟩

theorem str_ne {a b : ByteArray} (h : a ≠ b) : (a.toList == b.toList) = false := by
  rw [Lib.toList_data, Lib.toList_data, beq_eq_false_iff_ne]
  exact fun e => h (bytes_ext e)

theorem name_size (t p e : ByteArray) : (t ++ ⟨#[47]⟩ ++ p ++ ⟨#[47]⟩ ++ e : ByteArray).size = t.size + p.size + e.size + 2 := by
  simp only [ByteArray.size_append]
  show t.size + 1 + p.size + 1 + e.size = _
  omega

set_option maxRecDepth 100000 in
set_option maxHeartbeats 4000000 in
theorem apart_any (t p e t2 p2 e2 : ByteArray) (w : World) (h0 : t.size ≤ 9223372036854775807) (h1 : p.size ≤ 9223372036854775807) (h2 : e.size ≤ 9223372036854775807) (h3 : t2.size ≤ 9223372036854775807) (h4 : p2.size ≤ 9223372036854775807) (h5 : e2.size ≤ 9223372036854775807) :
    Calls Try.prog 4 #[.string t, .string p, .string e, .string t2, .string p2, .string e2] w fun r w' => r = .returned (.bool true) ∧ Grown w w' := by
  have hc := zzb14_any t p e t2 p2 e2 w h0 h1 h2 h3 h4 h5
  go_enter Try.func4, Try.ntmps4
  go_wp2_with fail
  refine hc.mono ?_
  rintro r w1 ⟨⟨B, rfl⟩, hw1⟩
  subst hw1
  clear hc
  cases B with
  | false =>
    go_wp2_with fail
    go_ret
    exact ⟨rfl, Grown.refl _⟩
  | true =>
    by_cases b0 : 1048576 < t.size
    · have d : decide (1048576 < (t.size : Int)) = true := by simp; omega
      go_wp2_with fail
      go_ret
      exact ⟨rfl, Grown.refl _⟩
    have d0 : decide (1048576 < (t.size : Int)) = false := by simp; omega
    by_cases b1 : 1048576 < p.size
    · have d : decide (1048576 < (p.size : Int)) = true := by simp; omega
      go_wp2_with fail
      go_ret
      exact ⟨rfl, Grown.refl _⟩
    have d1 : decide (1048576 < (p.size : Int)) = false := by simp; omega
    by_cases b2 : 1048576 < e.size
    · have d : decide (1048576 < (e.size : Int)) = true := by simp; omega
      go_wp2_with fail
      go_ret
      exact ⟨rfl, Grown.refl _⟩
    have d2 : decide (1048576 < (e.size : Int)) = false := by simp; omega
    by_cases b3 : 1048576 < t2.size
    · have d : decide (1048576 < (t2.size : Int)) = true := by simp; omega
      go_wp2_with fail
      go_ret
      exact ⟨rfl, Grown.refl _⟩
    have d3 : decide (1048576 < (t2.size : Int)) = false := by simp; omega
    by_cases b4 : 1048576 < p2.size
    · have d : decide (1048576 < (p2.size : Int)) = true := by simp; omega
      go_wp2_with fail
      go_ret
      exact ⟨rfl, Grown.refl _⟩
    have d4 : decide (1048576 < (p2.size : Int)) = false := by simp; omega
    by_cases b5 : 1048576 < e2.size
    · have d : decide (1048576 < (e2.size : Int)) = true := by simp; omega
      go_wp2_with fail
      go_ret
      exact ⟨rfl, Grown.refl _⟩
    have d5 : decide (1048576 < (e2.size : Int)) = false := by simp; omega
    by_cases b6 : 1048576 < t.size + p.size + e.size + t2.size + p2.size + e2.size
    · have d : decide (1048576 < (t.size : Int) + p.size + e.size + t2.size + p2.size + e2.size) = true := by simp; omega
      go_wp2_with fail
      go_ret
      exact ⟨rfl, Grown.refl _⟩
    have d6 : decide (1048576 < (t.size : Int) + p.size + e.size + t2.size + p2.size + e2.size) = false := by simp; omega
    go_wp2_with fail
    clear d0 d1 d2 d3 d4 d5 d6
    by_cases n0 : NoSlash t
    · refine (has_no t _ h0 n0).mono ?_
      rintro r w2 ⟨rfl, hw2⟩
      subst hw2
      go_wp2_with fail
      by_cases n1 : NoSlash e
      · refine (has_no e _ h2 n1).mono ?_
        rintro r w2 ⟨rfl, hw2⟩
        subst hw2
        go_wp2_with fail
        by_cases n2 : NoSlash t2
        · refine (has_no t2 _ h3 n2).mono ?_
          rintro r w2 ⟨rfl, hw2⟩
          subst hw2
          go_wp2_with fail
          by_cases n3 : NoSlash e2
          · refine (has_no e2 _ h5 n3).mono ?_
            rintro r w2 ⟨rfl, hw2⟩
            subst hw2
            have Hn : Hid (NoSlash t ∧ NoSlash e ∧ NoSlash t2 ∧ NoSlash e2) := ⟨n0, n1, n2, n3⟩
            clear n0 n1 n2 n3
            go_wp2_with fail
            refine (string_any t p e _ (by omega)).mono ?_
            rintro r w3 ⟨rfl, hw3⟩
            subst hw3
            go_wp2_with fail
            refine (string_any t2 p2 e2 _ (by omega)).mono ?_
            rintro r w4 ⟨rfl, hw4⟩
            subst hw4
            by_cases q0 : t = t2
            · subst q0
              by_cases q1 : p = p2
              · subst q1
                by_cases q2 : e = e2
                · subst q2
                  go_wp2_with fail
                  go_ret
                  exact ⟨rfl, ((Grown.refl _).alloc _ _).alloc _ _⟩
                · have hne : ((t ++ ⟨#[47]⟩ ++ p ++ ⟨#[47]⟩ ++ e : ByteArray).toList == (t ++ ⟨#[47]⟩ ++ p ++ ⟨#[47]⟩ ++ e2 : ByteArray).toList) = false := str_ne (fun x => q2 (names_inj Hn.out.1 Hn.out.2.1 Hn.out.2.2.1 Hn.out.2.2.2 (congrArg (fun b : ByteArray => b.data.toList) x)).2.2)
                  have hq := str_ne q2
                  clear q2
                  go_wp2_with fail
                  go_ret
                  exact ⟨rfl, ((Grown.refl _).alloc _ _).alloc _ _⟩
              · have hne : ((t ++ ⟨#[47]⟩ ++ p ++ ⟨#[47]⟩ ++ e : ByteArray).toList == (t ++ ⟨#[47]⟩ ++ p2 ++ ⟨#[47]⟩ ++ e2 : ByteArray).toList) = false := str_ne (fun x => q1 (names_inj Hn.out.1 Hn.out.2.1 Hn.out.2.2.1 Hn.out.2.2.2 (congrArg (fun b : ByteArray => b.data.toList) x)).2.1)
                have hq := str_ne q1
                clear q1
                go_wp2_with fail
                go_ret
                exact ⟨rfl, ((Grown.refl _).alloc _ _).alloc _ _⟩
            · have hne : ((t ++ ⟨#[47]⟩ ++ p ++ ⟨#[47]⟩ ++ e : ByteArray).toList == (t2 ++ ⟨#[47]⟩ ++ p2 ++ ⟨#[47]⟩ ++ e2 : ByteArray).toList) = false := str_ne (fun x => q0 (names_inj Hn.out.1 Hn.out.2.1 Hn.out.2.2.1 Hn.out.2.2.2 (congrArg (fun b : ByteArray => b.data.toList) x)).1)
              have hq := str_ne q0
              clear q0
              go_wp2_with fail
              go_ret
              exact ⟨rfl, ((Grown.refl _).alloc _ _).alloc _ _⟩
          · refine (has_yes e2 _ h5 n3).mono ?_
            rintro r w2 ⟨rfl, hw2⟩
            subst hw2
            clear n0 n1 n2 n3
            go_wp2_with fail
            go_ret
            exact ⟨rfl, Grown.refl _⟩
        · refine (has_yes t2 _ h3 n2).mono ?_
          rintro r w2 ⟨rfl, hw2⟩
          subst hw2
          clear n0 n1 n2
          go_wp2_with fail
          go_ret
          exact ⟨rfl, Grown.refl _⟩
      · refine (has_yes e _ h2 n1).mono ?_
        rintro r w2 ⟨rfl, hw2⟩
        subst hw2
        clear n0 n1
        go_wp2_with fail
        go_ret
        exact ⟨rfl, Grown.refl _⟩
    · refine (has_yes t _ h0 n0).mono ?_
      rintro r w2 ⟨rfl, hw2⟩
      subst hw2
      clear n0
      go_wp2_with fail
      go_ret
      exact ⟨rfl, Grown.refl _⟩
end Go.Proofs.Qxb6612254a
