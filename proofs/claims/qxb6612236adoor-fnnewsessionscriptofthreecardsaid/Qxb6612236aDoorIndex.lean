/-
  zzSessionIndex walked: at 'base' it answers 1, at 'base' followed by a numeral from 2 on, that number.
-/
import Derived.Test.Qxb6612236aDoorUnnamed
import Derived.Lib.Strings
namespace Go.Proofs.Qxb6612236aDoor
open Go Go.RowKit
set_option linter.unusedVariables false

set_option maxHeartbeats 400000 in
theorem index_one (b : ByteArray) (w : World) (hb : b.size ≤ 1000000) :
    Calls Tryd.prog 6 #[.string b, .string b] w fun e w' => e = .returned (.tuple #[.int .i64 1, .bool true]) ∧ w' = w := by
  go_enter Tryd.func6, Tryd.ntmps6
  go_wp2
  go_ret2
  exact ⟨rfl, rfl⟩

theorem dval_lt : ∀ (n : Nat) (l : List UInt8), l.length = n → (∀ c ∈ l, 48 ≤ c.toNat ∧ c.toNat ≤ 57) → dval l < 10 ^ n
  | 0, l, hl, _ => by
    have : l = [] := List.length_eq_zero_iff.1 hl
    subst this
    simp [dval]
  | n + 1, l, hl, h => by
    have hne : l ≠ [] := by rintro rfl; simp at hl
    have e := List.dropLast_concat_getLast hne
    have i := dval_lt n l.dropLast (by rw [List.length_dropLast]; omega) (fun c hc => h c (List.dropLast_subset l hc))
    have hc := h (l.getLast hne) (List.getLast_mem hne)
    rw [← e, dval_snoc, Nat.pow_succ]
    omega

theorem take_snoc (s : ByteArray) (k : Nat) (h : k < s.size) : s.data.toList.take (k + 1) = s.data.toList.take k ++ [s[k]] := by
  rw [List.take_succ_eq_append_getElem (by simpa using h)]; rfl

theorem ret_tuple {a b : Int} (h : a = b) : Ending.returned (.tuple #[.int .i64 a, .bool true]) = .returned (.tuple #[.int .i64 b, .bool true]) := by rw [h]

set_option maxHeartbeats 1000000 in
theorem index_core (b r d : ByteArray) (N : Nat) (w : World) (hb : b.size ≤ 1000000) (hr : b.size < r.size) (hr2 : r.size ≤ b.size + 5) (hd : r.extract b.size r.size = d) (h1 : 1 ≤ d.size) (h5 : d.size ≤ 5)
    (hx : (!(r.extract 0 b.size).toList == b.toList) = false) (h0 : (((d[0]'h1).toNat : Int) == 48) = false) (hdig : Hid (∀ c ∈ d.data.toList, 48 ≤ c.toNat ∧ c.toNat ≤ 57)) (hN : Hid (dval d.data.toList = N)) (hN2 : Hid (2 ≤ N)) :
    Calls Tryd.prog 6 #[.string b, .string r] w fun e w' => e = .returned (.tuple #[.int .i64 N, .bool true]) ∧ w' = w := by
  go_enter Tryd.func6, Tryd.ntmps6
  go_wp2
  go_loop [7, 8, 9] (fun n i _ => ∃ k : Nat, k ≤ d.size ∧ i = .int .i64 k ∧ n = .int .i64 (dval (d.data.toList.take k))) (fun _ i _ => d.size - (intOf i).toNat)
  case atStart => exact ⟨0, Nat.zero_le _, rfl, rfl⟩
  case round =>
    obtain ⟨k, hk, rfl, rfl⟩ := hrel
    have hlen : (d.data.toList.take k).length = k := by rw [List.length_take, ← bsize]; omega
    have hlt5 : dval (d.data.toList.take k) < 100000 := Nat.lt_of_lt_of_le (dval_lt k _ hlen (fun c hc => hdig.out c (List.mem_of_mem_take hc))) (Nat.le_trans (Nat.pow_le_pow_right (by decide) (show k ≤ 5 by omega)) (by decide))
    clear hlen
    by_cases hlt : k < d.size
    · have hc := hdig.out d[k] (by rw [show d[k] = d.data.toList[k]'(by rw [← bsize]; exact hlt) from rfl]; exact List.getElem_mem _)
      obtain ⟨hc1, hc2⟩ := hc
      have HS : Hid (dval (d.data.toList.take (k + 1)) = dval (d.data.toList.take k) * 10 + (d[k].toNat - 48)) := by rw [take_snoc d k hlt]; exact dval_snoc _ _
      go_wp2
      go_round
      case rel => exact ⟨k + 1, by omega, by go_num, by rw [HS.out]; go_num⟩
      case measure => simp [intOf]; omega
    · have hfin : Hid (dval (d.data.toList.take k) = N) := by
        have : k = d.data.toList.length := by rw [← bsize]; omega
        show _ = _
        rw [this, List.take_length]; exact hN.out
      have h2 : 2 ≤ dval (d.data.toList.take k) := by rw [hfin.out]; exact hN2.out
      go_wp2
      go_ret2
      exact ⟨ret_tuple (by rw [hfin.out]), rfl⟩

theorem bytes_ext {a b : ByteArray} (h : a.data.toList = b.data.toList) : a = b := by
  cases a; cases b
  simp only [ByteArray.mk.injEq]
  exact Array.toList_inj.1 h

theorem index_any (b r : ByteArray) (N : Nat) (w : World) (hb : b.size ≤ 1000000) (h1 : 1 ≤ N) (h2 : N < 100000) (hr : r.data.toList = cand b.data.toList N) :
    Calls Tryd.prog 6 #[.string b, .string r] w fun e w' => e = .returned (.tuple #[.int .i64 N, .bool true]) ∧ w' = w := by
  by_cases hN : N = 1
  · subst hN
    rw [cand_one] at hr
    obtain rfl := bytes_ext hr
    exact index_one r w hb
  · rw [cand_more _ (by omega)] at hr
    have hl := congrArg List.length hr
    rw [List.length_append, ← bsize, ← bsize] at hl
    have p1 := dec_pos N
    have p2 := dec_len5 N h2
    have hdl : (r.extract b.size r.size).data.toList = Lib.decDigits N := by
      rw [Lib.extract_data, hr, bsize b, List.drop_left]
      exact List.take_of_length_le (by rw [← bsize]; omega)
    have hds : (r.extract b.size r.size).size = (Lib.decDigits N).length := by rw [bsize, hdl]
    refine index_core b r _ N w hb (by omega) (by omega) rfl (by omega) (by omega) ?_ ?_ (fun c hc => dec_range N c (by rw [← hdl]; exact hc)) (by show _ = _; rw [hdl]; exact dval_dec N) (show 2 ≤ N by omega)
    · rw [Lib.extract_toList, hr, bsize b, List.drop_zero, Nat.sub_zero, List.take_left, Lib.toList_data]
      simp
    · have := dec_head N h1 ((r.extract b.size r.size)[0]'(by omega)) (by
        rw [← hdl, List.head?_eq_getElem?]
        exact List.getElem?_eq_getElem (by rw [← bsize]; omega))
      rw [beq_eq_false_iff_ne]
      omega
end Go.Proofs.Qxb6612236aDoor
