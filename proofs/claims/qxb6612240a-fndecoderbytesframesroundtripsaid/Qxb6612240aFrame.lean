/-
  b1AppendFrame walked.
-/
import Derived.Test.Qxb6612240aSmall
namespace Go.Proofs.Qxb6612240a
open Go Go.RowKit
set_option linter.unusedVariables false

/-- The four bytes ahead of a field of L bytes. -/
def hdr (L : Nat) : List Int := [(L : Int) / 16777216, (L : Int) / 65536, (L : Int) / 256 % 256, (L : Int) % 256]

theorem brow_hdr (w : World) (L : Nat) : BRow (w.heap.size + 1) (w.alloc (.cells #[.int .u8 ((L : Int) / 16777216), .int .u8 ((L : Int) / 65536), .int .u8 ((L : Int) / 256 % 256), .int .u8 ((L : Int) % 256)] 5)) (some ⟨w.heap.size, 0, none⟩) (hdr L) := fun k hk =>
  ⟨w.heap.size, 0, rfl, by omega, fun j hj => by
    rw [World.cell?_alloc_new, Nat.zero_add]
    match j, hj with
    | 0, _ => rfl
    | 1, _ => rfl
    | 2, _ => rfl
    | 3, _ => rfl
    | n + 4, h => exact absurd h (by simp [hdr])⟩

theorem beZ_hdr (L : Nat) (h : L ≤ 1048576) (r : List Int) : Lib.beZ ((hdr L ++ r).take 4) = L := by
  show Lib.beZ [(L : Int) / 16777216, (L : Int) / 65536, (L : Int) / 256 % 256, (L : Int) % 256] = L
  simp only [Lib.beZ, Lib.beFromZ]
  omega

theorem hdr_wf (L : Nat) (h : L ≤ 1048576) : ∀ z ∈ hdr L, (Lit.int .u8 z).wf = true := by
  intro z hz
  have hb : 0 ≤ z ∧ z ≤ 255 := by
    simp only [hdr, List.mem_cons, List.not_mem_nil, or_false] at hz
    omega
  simp [Lit.wf, IntKind.min, IntKind.max, IntKind.bits, IntKind.signed]
  omega

set_option maxRecDepth 100000 in
set_option maxHeartbeats 1000000 in
theorem frame_any (base : Nat) (v : Value) (n : Nat) (xs : List Value) (a : Option Addr) (c : Nat) (zs : List Int) (w : World) (hown : w.ownsRow base 5 1 v n xs) (hbase : base ≤ w.heap.size) (hl : zs.length ≤ 1048576) (hn : n ≤ 3000000) (hB : Hid (BRow base w a zs)) (hnil : Hid (a = none → c = 0 ∧ zs = [])) :
    Calls Try.prog 7 #[v, .slice a zs.length c] w fun e w' => ∃ v', e = .returned v' ∧ w'.ownsRow base 5 1 v' (n + 4 + zs.length) (xs ++ (hdr zs.length).map (Value.int .u8) ++ zs.map (Value.int .u8)) ∧ Below base w w' := by
  have HO : Hid (w.ownsRow base 5 1 v n xs) := hown
  have hvb : Hid (∀ k, v.ownBlock = some k → base ≤ k) := fun k hk => (hown.lt k hk).1
  clear hown
  go_enter Try.func7, Try.ntmps7
  go_wp2_with (first | (at_builtin; refine wpList_append_src rfl _ _ rfl base v n xs rfl (HO.out.alloc _) (some ⟨w.heap.size, 0, none⟩) 4 (hdr zs.length) rfl (fun e => by cases e) _ (brow_hdr w zs.length) (by show n + 4 ≤ _; omega) (by simp; omega) ?_; intro v1 w1 hown1 hgrow1 hnil1) | (at_builtin; refine wpList_append_src rfl _ _ rfl base v1 (n + 4) (xs ++ (hdr zs.length).map (Value.int .u8)) rfl hown1 a c zs rfl hnil.out base (hB.out.below (((Below.refl base w).alloc hbase _).grown hgrow1 (by simp; omega) hvb.out)) (by omega) (Nat.le_trans hbase (Nat.le_trans (by simp) hgrow1.size)) ?_; intro v2 w2 hown2 hgrow2 hnil2))
  go_ret
  exact ⟨v2, rfl, hown2, (((Below.refl base w).alloc hbase _).grown hgrow1 (by simp; omega) hvb.out).grown hgrow2 (Nat.le_trans hbase (Nat.le_trans (by simp) hgrow1.size)) (fun k hk => (hown1.lt k hk).1)⟩
end Go.Proofs.Qxb6612240a
