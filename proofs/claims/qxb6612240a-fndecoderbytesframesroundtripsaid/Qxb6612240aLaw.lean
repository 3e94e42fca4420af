/-
  FnDecoderBytesFramesRoundTrip walked.
-/
import Derived.Test.Qxb6612240aFrame
namespace Go.Proofs.Qxb6612240a
open Go Go.RowKit
set_option linter.unusedVariables false

theorem newDec_any (ad : Addr) (L cap : Nat) (w : World) :
    Calls Try.prog 8 #[.slice (some ad) L cap] w fun e w' => e = .returned (.pointer (some ⟨w.heap.size, 0, none⟩)) ∧ w' = w.alloc (.cells #[.slice (some ad) L cap, .nilIface] 67) := by
  go_enter Try.func8, Try.ntmps8
  go_wp2
  go_ret
  exact ⟨rfl, rfl⟩

theorem dec_new (w : World) (ad : Addr) (cap : Nat) (zs : List Int) (hl : zs.length ≤ cap) (hc : cap ≤ maxLen) (hB : BRow w.heap.size w (some ad) zs) : Dec (w.alloc (.cells #[.slice (some ad) zs.length cap, .nilIface] 67)) w.heap.size zs := by
  refine ⟨ad, cap, ?_, ?_, ?_, hl, by unfold maxLen at hc; omega, hB.below ((Below.refl _ _).alloc (Nat.le_refl _) _), by simp⟩
  · rw [World.cell?_alloc_new]; rfl
  · rw [World.cell?_alloc_new]; rfl
  · exact World.frozen?_alloc_new _ _ _ _

theorem make_any (n : Nat) (h : n ≤ 4000000) (x : Int) (hx : x = n) : ∃ X : Array Value, X.size = n * 1 ∧ ∀ W : World, (Instr.makeSlice 22 (.int .i64 0) (.int .i64 x)).run Try.prog W = .ok (.slice (some ⟨W.heap.size, 0, none⟩) 0 n) (W.alloc (.cells X 5)) := by
  obtain ⟨i0, hi, hz0, hz1, hz2⟩ := info_parts info5
  subst hx
  refine ⟨madeCells #[.int .u8 0] (n * 1), ?_, fun W => ?_⟩
  · rw [size_madeCells]
  · have hr := run_make (P := Try.prog) W 22 5 i0 (.int .u8 0) Try.underlying22 hi hz0 .i64 .i64 0 (n : Int) (by omega) (by omega) (by rw [hz2]; omega) (by omega)
    rw [hz1] at hr
    exact hr

/-- What came in: a byte slice. -/
structure InRow (w : World) (a : Option Addr) (c : Nat) (zs : List Int) : Prop where
  row : BRow w.heap.size w a zs
  nil : a = none → c = 0 ∧ zs = []
  wf : ∀ z ∈ zs, (Lit.int .u8 z).wf = true
  len : zs.length ≤ 9223372036854775807

theorem BRow.apart {B : Nat} {w w' : World} {a : Option Addr} {zs : List Int} {D : Nat} (h : BRow B w a zs) (hg : w.grownBy w' (some D)) (hB : B ≤ w.heap.size) (hD : ∀ b off, a = some ⟨b, off, none⟩ → b ≠ D) : BRow B w' a zs := fun k hk => by
  obtain ⟨b, off, e, hlt, hc⟩ := h k hk
  have := hD b off e
  exact ⟨b, off, e, hlt, fun j hj => by rw [World.cell?_of_block (w := w) (a := ⟨b, off + j, none⟩) (hg.block b (by omega) (by simpa using this))]; exact hc j hj⟩

theorem BRow.drawn {B : Nat} {w : World} {a : Option Addr} {zs : List Int} (h : BRow B w a zs) (n : Nat) : BRow B (w.drewN n) a zs := fun k hk => by
  obtain ⟨b, off, e, hlt, hc⟩ := h k hk
  exact ⟨b, off, e, hlt, fun j hj => by rw [World.cell?_drewN]; exact hc j hj⟩
theorem nat_int (n : Nat) : (n == 0) = ((n : Int) == 0) := by
  rw [Bool.eq_iff_iff, beq_iff_eq, beq_iff_eq]
  omega

/-- The bytes as they are written: two fields, then the tail. -/
def zB (z1 z2 : List Int) : List Int := hdr z1.length ++ (z1 ++ z2)
def zA (z0 z1 z2 : List Int) : List Int := hdr z0.length ++ (z0 ++ zB z1 z2)

theorem hdr_len (L : Nat) : (hdr L).length = 4 := rfl
theorem zB_len (z1 z2 : List Int) : (zB z1 z2).length = 4 + z1.length + z2.length := by simp [zB, hdr_len]; omega
theorem zA_len (z0 z1 z2 : List Int) : (zA z0 z1 z2).length = 8 + z0.length + z1.length + z2.length := by simp [zA, hdr_len, zB_len]; omega
theorem field_of (z r : List Int) : ((hdr z.length ++ (z ++ r)).drop 4).take z.length = z := by
  rw [show (hdr z.length ++ (z ++ r)).drop 4 = z ++ r from rfl, List.take_left]
theorem rest_of (z r : List Int) : (hdr z.length ++ (z ++ r)).drop (4 + z.length) = r := by
  rw [← List.drop_drop, show (hdr z.length ++ (z ++ r)).drop 4 = z ++ r from rfl, List.drop_left]
theorem zB_wf {z1 z2 : List Int} (h : z1.length ≤ 1048576) (h1 : ∀ z ∈ z1, (Lit.int .u8 z).wf = true) (h2 : ∀ z ∈ z2, (Lit.int .u8 z).wf = true) : ∀ z ∈ zB z1 z2, (Lit.int .u8 z).wf = true := by
  intro z hz
  rw [zB, List.mem_append, List.mem_append] at hz
  rcases hz with hz | hz | hz
  · exact hdr_wf _ h z hz
  · exact h1 z hz
  · exact h2 z hz
theorem zA_wf {z0 z1 z2 : List Int} (h : z0.length ≤ 1048576) (h' : z1.length ≤ 1048576) (h0 : ∀ z ∈ z0, (Lit.int .u8 z).wf = true) (h1 : ∀ z ∈ z1, (Lit.int .u8 z).wf = true) (h2 : ∀ z ∈ z2, (Lit.int .u8 z).wf = true) : ∀ z ∈ zA z0 z1 z2, (Lit.int .u8 z).wf = true := by
  intro z hz
  rw [zA, List.mem_append, List.mem_append] at hz
  rcases hz with hz | hz | hz
  · exact hdr_wf _ h z hz
  · exact h0 z hz
  · exact zB_wf h' h1 h2 z hz

/-- What is written is the two fields, then the tail. -/
theorem own_all {w : World} {base n : Nat} {v : Value} {z0 z1 z2 : List Int}
    (h : w.ownsRow base 5 1 v n (([] ++ (hdr z0.length).map (Value.int .u8) ++ z0.map (Value.int .u8)) ++ (hdr z1.length).map (Value.int .u8) ++ z1.map (Value.int .u8) ++ z2.map (Value.int .u8))) :
    ∃ ad cap, v = .slice (some ad) (zA z0 z1 z2).length cap ∧ (zA z0 z1 z2).length ≤ cap ∧ cap ≤ maxLen ∧ BRow w.heap.size w (some ad) (zA z0 z1 z2) := by
  have e : ([] ++ (hdr z0.length).map (Value.int .u8) ++ z0.map (Value.int .u8)) ++ (hdr z1.length).map (Value.int .u8) ++ z1.map (Value.int .u8) ++ z2.map (Value.int .u8) = (zA z0 z1 z2).map (Value.int .u8) := by
    simp [zA, zB, List.append_assoc]
  rw [e] at h
  obtain ⟨_, a, cap, hv, h1, h2, hB, hn⟩ := brow_of_own h
  cases a with
  | none =>
    have := hn rfl
    rw [hv] at this
    simp only [Value.slice.injEq] at this
    rw [zA_len] at this
    omega
  | some ad => exact ⟨ad, cap, hv, h1, h2, hB⟩

set_option maxRecDepth 100000 in
set_option maxHeartbeats 2000000 in
theorem law_any (a0 a1 a2 : Option Addr) (c0 c1 c2 : Nat) (z0 z1 z2 : List Int) (w : World) (i0 : Hid (InRow w a0 c0 z0)) (i1 : Hid (InRow w a1 c1 z1)) (i2 : Hid (InRow w a2 c2 z2)) :
    Calls Try.prog 3 #[.slice a0 z0.length c0, .slice a1 z1.length c1, .slice a2 z2.length c2] w fun e w' => e = .returned (.bool true) ∧ Below w.heap.size w w' := by
  have l0 := i0.out.len
  have l1 := i1.out.len
  have l2 := i2.out.len
  have hc := zzb_any a0 a1 a2 z0.length z1.length z2.length c0 c1 c2 w l0 l1 l2
  go_enter Try.func3, Try.ntmps3
  go_wp2_with fail
  refine hc.mono ?_
  rintro e w1 ⟨⟨B, rfl⟩, hw1⟩
  subst hw1
  clear hc
  cases B with
  | false =>
    go_wp2_with fail
    go_ret
    exact ⟨rfl, Below.refl _ _⟩
  | true =>
    by_cases b0 : 1048576 < z0.length
    · have d0 : decide (1048576 < (z0.length : Int)) = true := by simp; omega
      go_wp2_with fail
      go_ret
      exact ⟨rfl, Below.refl _ _⟩
    have d0 : decide (1048576 < (z0.length : Int)) = false := by simp; omega
    by_cases b1 : 1048576 < z1.length
    · have d1 : decide (1048576 < (z1.length : Int)) = true := by simp; omega
      go_wp2_with fail
      go_ret
      exact ⟨rfl, Below.refl _ _⟩
    have d1 : decide (1048576 < (z1.length : Int)) = false := by simp; omega
    by_cases b2 : 1048576 < z2.length
    · have d2 : decide (1048576 < (z2.length : Int)) = true := by simp; omega
      go_wp2_with fail
      go_ret
      exact ⟨rfl, Below.refl _ _⟩
    have d2 : decide (1048576 < (z2.length : Int)) = false := by simp; omega
    by_cases b3 : 1048576 < z0.length + z1.length + z2.length
    · have d3 : decide (1048576 < (z0.length : Int) + z1.length + z2.length) = true := by simp; omega
      go_wp2_with fail
      go_ret
      exact ⟨rfl, Below.refl _ _⟩
    have d3 : decide (1048576 < (z0.length : Int) + z1.length + z2.length) = false := by simp; omega
    obtain ⟨X, hXs, hmk⟩ := make_any (8 + z0.length + z1.length + z2.length) (by omega) (8 + (z0.length : Int) + z1.length + z2.length) (by omega)
    go_wp2_with fail
    clear hmk d0 d1 d2 d3
    have hbel1 : Below w1.heap.size w1 (w1.alloc (.cells X 5)) := (Below.refl _ _).alloc (Nat.le_refl _) _
    have hown1 : (w1.alloc (.cells X 5)).ownsRow w1.heap.size 5 1 (.slice (some ⟨w1.heap.size, 0, none⟩) 0 (8 + z0.length + z1.length + z2.length)) 0 [] := World.ownsRow_made w1 X _ (Nat.le_refl _) (by unfold maxLen; omega) hXs
    refine (frame_any w1.heap.size _ 0 [] a0 c0 z0 _ hown1 (by simp) (by omega) (by omega) (i0.out.row.below hbel1) i0.out.nil).mono ?_
    rintro e w2 ⟨v2, rfl, hown2, hb2⟩
    have hbel2 := hbel1.trans hb2
    have HO2 : Hid (w2.ownsRow w1.heap.size 5 1 v2 (0 + 4 + z0.length) ([] ++ (hdr z0.length).map (Value.int .u8) ++ z0.map (Value.int .u8))) := hown2
    clear hown1 hbel1 hb2 hXs hown2
    go_wp2_with fail
    refine (frame_any w1.heap.size _ _ _ a1 c1 z1 _ HO2.out hbel2.size (by omega) (by omega) (i1.out.row.below hbel2) i1.out.nil).mono ?_
    rintro e w3 ⟨v3, rfl, hown3, hb3⟩
    have hbel3 := hbel2.trans hb3
    have HO3 : Hid (w3.ownsRow w1.heap.size 5 1 v3 (0 + 4 + z0.length + 4 + z1.length) (([] ++ (hdr z0.length).map (Value.int .u8) ++ z0.map (Value.int .u8)) ++ (hdr z1.length).map (Value.int .u8) ++ z1.map (Value.int .u8))) := hown3
    clear hbel2 hb3 hown3 HO2
    go_wp2_with (at_builtin; refine wpList_append_src rfl _ _ rfl w1.heap.size v3 _ _ rfl HO3.out a2 c2 z2 rfl i2.out.nil w1.heap.size (i2.out.row.below hbel3) (by omega) hbel3.size ?_; intro v4 w4 hown4 hgrow4 hnil4)
    have hbel4 := hbel3.grown hgrow4 hbel3.size (fun k hk => (HO3.out.lt k hk).1)
    obtain ⟨ad, cap, rfl, hcl, hcm, hB4⟩ := own_all hown4
    have HB4 : Hid (BRow w4.heap.size w4 (some ad) (zA z0 z1 z2)) := hB4
    clear hown4 hgrow4 hnil4 hB4 HO3 hbel3
    refine (newDec_any ad _ cap _).mono ?_
    rintro e w5 ⟨rfl, hw5⟩
    have HD5 : Hid (Dec w5 w4.heap.size (zA z0 z1 z2)) := by rw [hw5]; exact dec_new w4 ad cap _ hcl hcm HB4.out
    have hbel5 : Below w1.heap.size w1 w5 := by rw [hw5]; exact hbel4.alloc hbel4.size _
    have hDge := hbel4.size
    clear hw5 HB4 hbel4 hcl hcm
    generalize w4.heap.size = D at *
    go_wp2_with fail
    refine (zzbytes_dec D (zA z0 z1 z2) z0 z0.length _ HD5 (by rw [zA_len]; omega) (by omega) (zA_wf (by omega) (by omega) i0.out.wf i1.out.wf i2.out.wf) (beZ_hdr _ (by omega) _) (field_of _ _)).mono ?_
    rintro e w6 ⟨⟨a6, c6, rfl, hnil6, hB6, hlo6⟩, hD6, hg6⟩
    have HD6 : Hid (Dec w6 D (zB z1 z2)) := by have := hD6.out; rw [zA, rest_of] at this; exact this
    have hbel6 := hbel5.grown hg6 hbel5.size (fun k hk => by cases hk; exact hDge)
    have HB6 : Hid (BRow w6.heap.size w6 a6 z0) := hB6
    have Hlo6 : Hid (∀ b off, a6 = some ⟨b, off, none⟩ → D + 1 ≤ b) := hlo6
    have Hnil6 : Hid (a6.isNone = (z0.length == 0)) := hnil6
    clear HD5 hbel5 hD6 hg6 hB6 hlo6 hnil6
    go_wp2_with fail
    refine (zzbytes_dec D (zB z1 z2) z1 z1.length _ HD6 (by rw [zB_len]; omega) (by omega) (zB_wf (by omega) i1.out.wf i2.out.wf) (beZ_hdr _ (by omega) _) (field_of _ _)).mono ?_
    rintro e w7 ⟨⟨a7, c7, rfl, hnil7, hB7, hlo7⟩, hD7, hg7⟩
    have HD7 : Hid (Dec w7 D z2) := by have := hD7.out; rw [zB, rest_of] at this; exact this
    have hbel7 := hbel6.grown hg7 hbel6.size (fun k hk => by cases hk; exact hDge)
    have HB6' : Hid (BRow w6.heap.size w7 a6 z0) := HB6.out.apart hg7 (Nat.le_refl _) (fun b off e => by have := Hlo6.out b off e; omega)
    have HB7 : Hid (BRow w7.heap.size w7 a7 z1) := hB7
    have Hnil7 : Hid (a7.isNone = (z1.length == 0)) := hnil7
    clear HD6 hbel6 hD7 hg7 hB7 hlo7 hnil7 HB6 Hlo6
    go_wp2_with fail
    refine (state_dec D z2 _ HD7.out).mono ?_
    rintro e w8 ⟨a8, c8, rfl, hB8, n8, hw8⟩
    subst hw8
    have HB8 : Hid (BRow D w7 (some a8) z2) := hB8
    clear hB8 HD7
    have he6 : ∀ w' : World, (binOp .eql 22 (.slice a6 z0.length c6) (.slice none 0 0)).run Try.prog w' = .ok (.bool ((z0.length : Int) == 0)) w' := fun w' => by rw [Lib.run_eql_slice_nil w' 22 5 a6 z0.length c6 0 0 Try.underlying22, Hnil6.out, nat_int]
    have he7 : ∀ w' : World, (binOp .eql 22 (.slice a7 z1.length c7) (.slice none 0 0)).run Try.prog w' = .ok (.bool ((z1.length : Int) == 0)) w' := fun w' => by rw [Lib.run_eql_slice_nil w' 22 5 a7 z1.length c7 0 0 Try.underlying22, Hnil7.out, nat_int]
    go_wp2_with fail
    refine (same_any a6 a0 c6 c0 z0 _ l0 _ _ (HB6'.out.drawn n8) ((i0.out.row.below hbel7).drawn n8)).mono ?_
    rintro e w9 ⟨rfl, n9, hw9⟩
    subst hw9
    go_wp2_with fail
    refine (same_any a7 a1 c7 c1 z1 _ l1 _ _ (HB7.out.drawn (n8 + n9)) ((i1.out.row.below hbel7).drawn (n8 + n9))).mono ?_
    rintro e w10 ⟨rfl, n10, hw10⟩
    subst hw10
    go_wp2_with fail
    refine (same_any (some a8) a2 c8 c2 z2 _ l2 _ _ (HB8.out.drawn (n8 + n9 + n10)) ((i2.out.row.below hbel7).drawn (n8 + n9 + n10))).mono ?_
    rintro e w11 ⟨rfl, n11, hw11⟩
    subst hw11
    go_wp2_with fail
    go_ret
    exact ⟨rfl, hbel7.trans ⟨rfl, rfl, rfl, Nat.le_refl _, fun _ _ => rfl⟩⟩
end Go.Proofs.Qxb6612240a
