/-
  The law walked: whatever the input it returns true.
-/
import Derived.Test.Qxb6609165aMark
import Derived.Test.Qxb6609165aTable
import Derived.Deep.QuietTactic
import Derived.BigQuiet
import Derived.Deep.RegionWith
import Derived.Deep.DeepCutAuto
import Derived.Deep.LoopGhost
import Derived.Deep.RegionHeld3
namespace Go.Proofs.Qxb6609165a
open Go Go.RowKit
set_option linter.unusedVariables false

theorem info4 : (Try.prog.info? 4).map (fun i => (i.zero, i.size, i.bytes)) = some (some (.bool false), 1, 1) := by kernel_rfl

/-- What AddressesFrom hands back, by index. -/
theorem res_form {w : World} {base : Nat} {v : Value} {E : List (ByteArray × ByteArray)} (h : w.ownsRow base 36 2 v E.length (cellsE E)) (hn : v = .slice none 0 0 ↔ E = []) :
    ∃ ra rc, v = .slice ra E.length rc ∧ (E.length = 0 → ra = none) ∧ PairRow w.heap.size w ra E.length (fun i => (E.getD i (ByteArray.empty, ByteArray.empty)).1) (fun i => (E.getD i (ByteArray.empty, ByteArray.empty)).2) := by
  rcases h.2 with ⟨rfl, h0⟩ | ⟨g, cap, cur, rfl, hb, hg, hnc, hcm, hcs, htake⟩
  · exact ⟨none, 0, by rw [h0], fun _ => rfl, fun k hk => by omega⟩
  · refine ⟨some ⟨g, 0, none⟩, cap, rfl, fun h0 => ?_, fun k hk => ⟨g, 0, rfl, (Array.getElem?_eq_some_iff.1 hg).1, fun j hj => ?_⟩⟩
    · have := hn.2 (List.eq_nil_of_length_eq_zero h0)
      cases this
    · obtain ⟨h1, h2⟩ := cellsE_at E j hj
      rw [Nat.zero_add, h.cellAt (j * 2) (by omega), h.cellAt (j * 2 + 1) (by omega)]
      exact ⟨h1, h2⟩

/-- What the law knows of the entries f, g. -/
structure Ent (S : Nat → SlotM) (n : Nat) (L : ByteArray → ByteArray) (m : Nat) (f g : Nat → ByteArray) : Prop where
  addr : ∀ j, j < m → g j ≠ ByteArray.empty ∧ L (f j) = g j
  asc : Asc m f
  all : ∀ x : ByteArray, Named S n x.data.toList → L x ≠ ByteArray.empty → ∃ k, k < m ∧ f k = x
  named : ∀ j, j < m → Named S n (f j).data.toList
  len : m ≤ 1048576

theorem ent_of {S : Nat → SlotM} {n : Nat} {L : ByteArray → ByteArray} {E : List (ByteArray × ByteArray)} (h : Res S n L E) : Ent S n L E.length (fun i => (E.getD i (ByteArray.empty, ByteArray.empty)).1) (fun i => (E.getD i (ByteArray.empty, ByteArray.empty)).2) := by
  have hm : ∀ j, (hj : j < E.length) → E.getD j (ByteArray.empty, ByteArray.empty) = E[j] := fun j hj => by simp [List.getD, hj]
  refine ⟨fun j hj => ?_, fun i j hij hj => ?_, fun x hx hL => ?_, fun j hj => ?_, h.len⟩
  · have := h.addr _ (List.getElem_mem hj)
    rw [hm j hj]
    exact ⟨this.1, this.2.symm⟩
  · show (E.getD i _).1.data.toList < (E.getD j _).1.data.toList
    rw [hm j hj, hm i (by omega)]
    exact List.pairwise_iff_getElem.1 h.asc i j (by omega) hj hij
  · obtain ⟨p, hp, rfl⟩ := h.all x hx hL
    obtain ⟨k, hk, rfl⟩ := List.getElem_of_mem hp
    exact ⟨k, hk, by show (E.getD k _).1 = _; rw [hm k hk]⟩
  · show Named S n (E.getD j _).1.data.toList
    rw [hm j hj]
    exact h.named _ (List.getElem_mem hj)

theorem make_bool (n : Nat) (h : n ≤ 4000000) (W : World) : (Instr.makeSlice 37 (.int .i64 (n : Int)) (.int .i64 (n : Int))).run Try.prog W = .ok (.slice (some ⟨W.heap.size, 0, none⟩) n n) (W.alloc (.cells (madeCells #[.bool false] n) 4)) := by
  obtain ⟨i0, hi0, hz0, hz1, hz2⟩ := info_parts info4
  have h1 : (i0.bytes : Int) * (n : Int) ≤ 281474976710656 := by rw [hz2]; omega
  have hr := run_make (P := Try.prog) W 37 4 i0 (.bool false) Try.underlying37 hi0 hz0 .i64 .i64 (n : Int) (n : Int) (by omega) (by omega) h1 (by omega)
  rw [hz1, Nat.mul_one] at hr
  exact hr

theorem hit_made (w : World) (n : Nat) (h : n ≤ 4000000) : HitAt (w.alloc (.cells (madeCells #[.bool false] n) 4)) w.heap.size n (List.replicate n false) := by
  refine ⟨by simp, ?_⟩
  have := World.ownsRow_lit (base := 0) (e := 4) (size := 1) w (madeCells #[.bool false] n) n (Nat.zero_le _) (by unfold maxLen; omega) (by simp [size_madeCells])
  rw [toList_madeCells_one] at this
  simpa using this

/-- Every entry that one of the first i slots names is marked. -/
def Marks (S : Nat → SlotM) (f : Nat → ByteArray) (m i : Nat) (bs : List Bool) : Prop := ∀ j : Nat, j < m → Named S i (f j).data.toList → bs[j]? = some true
theorem marks_zero (S : Nat → SlotM) (f : Nat → ByteArray) (m : Nat) (bs : List Bool) : Marks S f m 0 bs := fun j _ ⟨i, hi, _⟩ => by omega
/-- .. and of slot i the leader, and the first p followers. -/
def MarksIn (S : Nat → SlotM) (f : Nat → ByteArray) (m i p : Nat) (bs : List Bool) : Prop := ∀ j : Nat, j < m → (Named S i (f j).data.toList ∨ ((S i).ld ≠ ByteArray.empty ∧ (f j).data.toList = (S i).ld.data.toList) ∨ ∃ q, q < p ∧ (f j).data.toList = ((S i).fs q).data.toList) → bs[j]? = some true
theorem marks_end {S : Nat → SlotM} {f : Nat → ByteArray} {m i : Nat} {bs : List Bool} (h : MarksIn S f m i (S i).fn bs) : Marks S f m (i + 1) bs := fun j hj hN => h j hj ((named_step S i _).1 hN)
theorem marks_lead {S : Nat → SlotM} {n : Nat} {L : ByteArray → ByteArray} {m : Nat} {f g : Nat → ByteArray} (E : Ent S n L m f g) {i : Nat} {bs bs' : List Bool} (h : Marks S f m i bs) (hs : Step L f m (S i).ld bs bs') : MarksIn S f m i 0 bs' := fun j hj hN => by
  rcases hN with hN | ⟨_, e⟩ | ⟨q, hq, _⟩
  · exact hs.1 j (h j hj hN)
  · refine hs.2 j hj (bytes_ext e) ?_
    rw [← bytes_ext e, (E.addr j hj).2]
    exact (E.addr j hj).1
  · omega
theorem marks_none {S : Nat → SlotM} {f : Nat → ByteArray} {m i : Nat} {bs : List Bool} (h : Marks S f m i bs) (he : (S i).ld = ByteArray.empty) : MarksIn S f m i 0 bs := fun j hj hN => by
  rcases hN with hN | ⟨e, _⟩ | ⟨q, hq, _⟩
  · exact h j hj hN
  · exact absurd he e
  · omega
theorem marks_next {S : Nat → SlotM} {n : Nat} {L : ByteArray → ByteArray} {m : Nat} {f g : Nat → ByteArray} (E : Ent S n L m f g) {i p : Nat} {bs bs' : List Bool} (h : MarksIn S f m i p bs) (hs : Step L f m ((S i).fs p) bs bs') : MarksIn S f m i (p + 1) bs' := fun j hj hN => by
  rcases hN with hN | hN | ⟨q, hq, e⟩
  · exact hs.1 j (h j hj (.inl hN))
  · exact hs.1 j (h j hj (.inr (.inl hN)))
  · rcases Nat.lt_or_eq_of_le (Nat.le_of_lt_succ hq) with h3 | h3
    · exact hs.1 j (h j hj (.inr (.inr ⟨q, h3, e⟩)))
    · subst h3
      refine hs.2 j hj (bytes_ext e) ?_
      rw [← bytes_ext e, (E.addr j hj).2]
      exact (E.addr j hj).1

theorem PairRow.mono {B B' : Nat} {w : World} {a : Option Addr} {n : Nat} {f g : Nat → ByteArray} (h : PairRow B w a n f g) (hb : B ≤ B') : PairRow B' w a n f g := fun k hk => by
  obtain ⟨b, off, e, hlt, hc⟩ := h k hk
  exact ⟨b, off, e, by omega, hc⟩
theorem StrRow.mono {B B' : Nat} {w : World} {a : Option Addr} {n : Nat} {f : Nat → ByteArray} (h : StrRow B w a n f) (hb : B ≤ B') : StrRow B' w a n f := fun k hk => by
  obtain ⟨b, off, e, hlt, hc⟩ := h k hk
  exact ⟨b, off, e, by omega, hc⟩
theorem NodeRow.mono {B B' : Nat} {w : World} {a : Option Addr} {n : Nat} {f : Nat → ByteArray} {g : Nat → Int} (h : NodeRow B w a n f g) (hb : B ≤ B') : NodeRow B' w a n f g := fun k hk => by
  obtain ⟨b, off, e, hlt, hc⟩ := h k hk
  exact ⟨b, off, e, by omega, hc⟩
theorem SlotRow.mono {B B' : Nat} {w : World} {a : Option Addr} {n : Nat} {S : Nat → SlotM} (h : SlotRow B w a n S) (hb : B ≤ B') : SlotRow B' w a n S := fun k hk => by
  obtain ⟨b, off, e, hlt, hc⟩ := h k hk
  exact ⟨b, off, e, by omega, fun j hj => { hc j hj with fr := (hc j hj).fr.mono hb, nr := (hc j hj).nr.mono hb }⟩

set_option maxRecDepth 1000000 in
set_option maxHeartbeats 8000000 in
theorem law_any (x0 x1 : Int) (a : Option Addr) (n c : Nat) (S : Nat → SlotM) (a1 : Option Addr) (n1 c1 : Nat) (f1 g1 : Nat → ByteArray) (a2 : Option Addr) (n2 c2 : Nat) (f2 g2 : Nat → ByteArray) (w : World)
    (hn : n ≤ 9223372036854775807) (hn1 : n1 ≤ 9223372036854775807) (hn2 : n2 ≤ 9223372036854775807) (hnil : a = none → n = 0) (hB : Hid (SlotRow w.heap.size w a n S)) (hB1 : Hid (PairRow w.heap.size w a1 n1 f1 g1)) (hB2 : Hid (PairRow w.heap.size w a2 n2 f2 g2))
    (hf1 : Hid (∀ j, j < n1 → (f1 j).size ≤ 9223372036854775807 ∧ (g1 j).size ≤ 9223372036854775807)) (hf2 : Hid (∀ j, j < n2 → (f2 j).size ≤ 9223372036854775807 ∧ (g2 j).size ≤ 9223372036854775807)) :
    Calls Try.prog 3 #[.int .i64 x0, .int .u64 x1, .slice a n c, .slice a1 n1 c1, .slice a2 n2 c2] w fun e w' => e = .returned (.bool true) ∧ Below w.heap.size w w' := by
  obtain ⟨wB, hwB⟩ : ∃ wB, wB = w.alloc (.cells #[.slice a2 n2 c2] 24) := ⟨_, rfl⟩
  have hbel0 : Below w.heap.size w wB := by rw [hwB]; exact (Below.refl _ _).alloc (Nat.le_refl _) _
  have hsz0 : Hid (wB.heap.size = w.heap.size + 1) := by rw [hwB]; simp [Hid]
  have hcb : wB.cell? ⟨w.heap.size, 0, none⟩ = some (.slice a2 n2 c2) := by rw [hwB, World.cell?_alloc_new]; rfl
  have hBB : Hid (SlotRow w.heap.size wB a n S) := hB.out.below hbel0
  have hBB1 : Hid (PairRow w.heap.size wB a1 n1 f1 g1) := hB1.out.below hbel0
  have hBB2 : Hid (PairRow w.heap.size wB a2 n2 f2 g2) := hB2.out.below hbel0
  have hbytes := bytes_any x0 x1 a n c S a1 n1 c1 f1 g1 a2 n2 c2 f2 g2 wB hn hn1 hn2 _ hBB hBB1 hBB2 hf1 hf2
  have hslots := slots_any a n c S wB hn _ hBB
  go_enter Try.func3, Try.ntmps3
  go_wp2_with fail
  rw [← hwB]
  clear hwB
  refine hbytes.mono ?_
  rintro e w1 ⟨⟨b, rfl, hb⟩, rfl⟩
  have Hb : Hid (b = true → n + sumF S n ≤ 1048576 ∧ (∀ i, i < n → (S i).nn ≤ 1048576) ∧ n1 ≤ 1048576 ∧ n2 ≤ 1048576) := hb
  clear hb hbytes
  cases b
  · go_wp2_with fail
    go_ret
    exact ⟨rfl, hbel0⟩
  obtain ⟨hsum, hnn, hm1, hm2⟩ := Hb.out rfl
  have Hnn : Hid (∀ i, i < n → (S i).nn ≤ 1048576) := hnn
  clear hnn Hb
  go_wp2_with fail
  refine hslots.mono ?_
  rintro e w2 ⟨⟨t, b, rfl, ht0, ht1⟩, rfl⟩
  clear hslots
  cases b
  case true =>
    go_wp2_with fail
    go_ret
    exact ⟨rfl, hbel0⟩
  have hadd := addrs_any t a1 n1 c1 f1 g1 w2 ⟨ht0, ht1⟩ hn1 _ hBB1 hf1
  go_wp2_with fail
  refine hadd.mono ?_
  rintro e w3 ⟨⟨t2, b, rfl, ht20, ht21⟩, rfl⟩
  clear hadd
  cases b
  case true =>
    go_wp2_with fail
    go_ret
    exact ⟨rfl, hbel0⟩
  have hadd := addrs_any t2 a2 n2 c2 f2 g2 w3 ⟨ht20, ht21⟩ hn2 _ hBB2 hf2
  go_wp2_with fail
  refine hadd.mono ?_
  rintro e w4 ⟨⟨t3, b, rfl, ht30, ht31⟩, rfl⟩
  clear hadd
  cases b
  case true =>
    go_wp2_with fail
    go_ret
    exact ⟨rfl, hbel0⟩
  have hle := hbel0.size
  have htab := table_any x0 x1 a n c S a1 n1 c1 f1 g1 w4 (by omega) hm1 hnil (hBB.out.mono hle) (hBB1.out.mono hle) Hnn
  clear hnil
  go_wp2_with fail
  refine htab.mono ?_
  rintro e w5 ⟨T, rfl, hT, hbel5⟩
  clear htab
  have hbel5' : Below w.heap.size w w5 := hbel0.trans (hbel5.mono hle)
  have hcb5 : w5.cell? ⟨w.heap.size, 0, none⟩ = some (.slice a2 n2 c2) := by rw [hbel5.cell (p := ⟨w.heap.size, 0, none⟩) (by have := hsz0.out; simp only; omega)]; exact hcb
  have hF : Hid (∀ i, i < n → StrRow w.heap.size w5 (S i).fa (S i).fn (S i).fs ∧ (S i).ld.size ≤ maxLen ∧ ∀ j, j < (S i).fn → ((S i).fs j).size ≤ maxLen) := fun i hi => by
    obtain ⟨b, off, e, hb, hs⟩ := hB.out i hi
    have s := hs i hi
    exact ⟨s.fr.below hbel5', s.ls, s.fss⟩
  have hfrom := from_any T n S w5 hT w.heap.size hbel5'.size hF hsum w.heap.size a2 n2 c2 f2 g2 hm2 (by have := hsz0.out; have := hbel5.size; omega) (hB2.out.below hbel5') hcb5
  clear hT hF hBB hBB1 hBB2 hcb Hnn
  go_wp2_with fail
  refine hfrom.mono ?_
  rintro e w6 ⟨v, E, rfl, hres, hown, hnil, hbel6⟩
  clear hfrom
  obtain ⟨ra, rc, rfl, hra, hR⟩ := res_form hown hnil.out
  have HE := ent_of hres.out
  have hbel6' : Below w.heap.size w w6 := hbel5'.trans (hbel6.mono hbel5'.size)
  have hcb6 : w6.cell? ⟨w.heap.size, 0, none⟩ = some (.slice a2 n2 c2) := by rw [hbel6.cell (p := ⟨w.heap.size, 0, none⟩) (by have := hsz0.out; have := hbel5.size; simp only; omega)]; exact hcb5
  have hlt6 : w.heap.size < w6.heap.size := by have := hsz0.out; have := hbel5.size; have := hbel6.size; omega
  clear hres hown hnil hbel6 hbel5' hcb5 hbel5 hbel0 hle hsz0
  generalize (fun i => (E.getD i (ByteArray.empty, ByteArray.empty)).1) = rf at *
  generalize (fun i => (E.getD i (ByteArray.empty, ByteArray.empty)).2) = rg at *
  generalize E.length = m at *
  clear E
  have hml := HE.len
  have HE' : Hid (Ent S n (look n2 f2 g2) m rf rg) := HE
  have HR : Hid (PairRow w6.heap.size w6 ra m rf rg) := hR
  have HB : Hid (SlotRow w.heap.size w6 a n S) := hB.out.below hbel6'
  have HB2 : Hid (PairRow w6.heap.size w6 a2 n2 f2 g2) := (hB2.out.below hbel6').mono hbel6'.size
  clear HE hR hB hB1 hB2 hf1 hf2
  have hne : ∀ w' : World, (binOp .neq 31 (.slice ra m rc) (.slice none 0 0)).run Try.prog w' = .ok (.bool (!ra.isNone)) w' := fun w' => run_neq_slice_nil_any w' 31 36 ra m rc 0 0 Try.underlying31
  go_upto_region 16 with fail
  go_cut [14, 64] (fun s14 s wx => s14 = .slice ra m rc ∧ s = .bool false ∧ w6 = wx)
  case first =>
    go_wp2_with fail
    all_goals go_meet
    all_goals first | exact ⟨rfl, rfl, rfl⟩ | (refine ⟨?_, rfl, rfl⟩; congr 1; omega)
  case rest =>
  obtain ⟨rfl, rfl, rfl⟩ := hcut
  clear hne hra
  go_wp2_with fail
  go_loopw [15] (fun i wr => ∃ (j : Nat), j ≤ m ∧ i = .int .i64 j ∧ Below w6.heap.size w6 wr) (fun i _ => m - (intOf i).toNat)
  case atStart => exact ⟨0, Nat.zero_le _, rfl, Below.refl _ _⟩
  case round =>
    obtain ⟨j, hj, rfl, hbel⟩ := hrel
    by_cases hlt : j < m
    · obtain ⟨rb, off, rfl, hrb, hc⟩ := HR.out j hlt
      obtain ⟨k1, k2⟩ := hc j hlt
      rw [← hbel.cell (p := ⟨rb, off + j * 2, none⟩) hrb] at k1
      rw [← hbel.cell (p := ⟨rb, off + j * 2 + 1, none⟩) hrb] at k2
      have hcb' : wr.cell? ⟨w.heap.size, 0, none⟩ = some (.slice a2 n2 c2) := by
        rw [hbel.cell (p := ⟨w.heap.size, 0, none⟩) hlt6]; exact hcb6
      have HB2' : Hid (PairRow w6.heap.size wr a2 n2 f2 g2) := HB2.out.below hbel
      obtain ⟨e1, e2⟩ := HE'.out.addr j hlt
      have hie : (rg j).toList.isEmpty = false := by rw [isEmpty_eq]; simpa using e1
      have hlook : ∀ k, Calls Try.prog 12 #[.slice a2 n2 c2, .string (rf j)] (wr.drewN k) fun e w' => e = .returned (.string (rg j)) ∧ w' = wr.drewN k := fun k => by rw [← e2]; exact look_any a2 n2 c2 f2 g2 (rf j) (wr.drewN k) hn2 _ (HB2'.out.below (below_drewN (Below.refl _ wr) k))
      clear e1 e2
      go_upto_region 21 with fail
      go_quiet ((go_at_call 12; exact Calls.quiet_of_same (hlook _)))
      go_wp2_with fail
      clear hlook k2 hcb' HB2' hie
      by_cases hj0 : 0 < j
      · have hd : decide (0 < (j : Int)) = true := by simpa using hj0
        have k3 := (hc (j - 1) (by omega)).1
        rw [← hbel.cell (p := ⟨rb, off + (j - 1) * 2, none⟩) hrb] at k3
        have hls : Op.bytesLess (rf (j - 1)).toList (rf j).toList = true := by rw [asc_less HE'.out.asc (by omega) hlt]; simp; omega
        clear hc
        go_quiet (fail)
        go_wp2_with fail
        go_roundw
        case rel => exact ⟨j + 1, by omega, by go_num, below_drewN hbel _⟩
        case measure => simp [intOf]; omega
      · have hd : decide (0 < (j : Int)) = false := by simpa using hj0
        clear hc
        go_quiet (fail)
        go_wp2_with fail
        go_roundw
        case rel => exact ⟨j + 1, by omega, by go_num, below_drewN hbel _⟩
        case measure => simp [intOf]; omega
    · have e : j = m := by omega
      subst e
      clear hlt hj
      generalize wr = wq at *
      have hq6 : w6.heap.size ≤ wq.heap.size := hbel.size
      have hbelq : Below w.heap.size w wq := hbel6'.trans (hbel.mono hbel6'.size)
      have HRq : Hid (PairRow wq.heap.size wq ra j rf rg) := (HR.out.below hbel).mono hq6
      have HBq : Hid (SlotRow wq.heap.size wq a n S) := (HB.out.below (hbel.mono hbel6'.size)).mono (by omega)
      have HB2q : Hid (PairRow wq.heap.size wq a2 n2 f2 g2) := (HB2.out.below hbel).mono hq6
      have hcbq : wq.cell? ⟨w.heap.size, 0, none⟩ = some (.slice a2 n2 c2) := by rw [hbel.cell (p := ⟨w.heap.size, 0, none⟩) hlt6]; exact hcb6
      have hltq : w.heap.size < wq.heap.size := by omega
      have hHit : Hid (HitAt (wq.alloc (.cells (madeCells #[.bool false] j) 4)) wq.heap.size j (List.replicate j false)) := hit_made wq j (by omega)
      have hmk := make_bool j (by omega)
      clear HR HB HB2 hcb6 hlt6 hbel6' hbel hq6
      go_wp2_with fail
      clear hmk
      go_loopg [17] n (fun k s17 wr => ∃ (i : Nat) (bs : List Bool), i ≤ n ∧ k = n - i ∧ s17 = .int .i64 i ∧ Hid (HitAt wr wq.heap.size j bs) ∧ Hid (Marks S rf j i bs) ∧ Below wq.heap.size wq wr)
      case atStart => exact ⟨0, _, Nat.zero_le _, rfl, rfl, hHit, marks_zero _ _ _ _, (Below.refl _ _).alloc (Nat.le_refl _) _⟩
      case round =>
        clear hHit
        obtain ⟨i, bs, hi, rfl, rfl, hH, hM, hbel⟩ := hrel
        generalize wr = wo at *
        have hcbo : wo.cell? ⟨w.heap.size, 0, none⟩ = some (.slice a2 n2 c2) := by rw [hbel.cell (p := ⟨w.heap.size, 0, none⟩) hltq]; exact hcbq
        by_cases hlt : i < n
        · obtain ⟨sb, so, rfl, hsb, hs⟩ := HBq.out i hlt
          have s := hs i hlt
          have r1 := s.c1
          have r3 := s.c3
          have Hfr : Hid (StrRow wq.heap.size wq (S i).fa (S i).fn (S i).fs) := s.fr
          have hfl := s.fl
          rw [← hbel.cell (p := ⟨sb, so + i * 5 + 1, none⟩) hsb] at r1
          clear s hs
          go_upto_region 29 with fail
          go_cut [135] (fun s wx => ∃ bs', s = .bool false ∧ Hid (HitAt wx wq.heap.size j bs') ∧ Hid (MarksIn S rf j i 0 bs') ∧ Below wq.heap.size wq wx)
          case first =>
            by_cases hemp : (S i).ld = ByteArray.empty
            · have hie : (S i).ld.toList.isEmpty = true := by rw [isEmpty_eq]; simpa using hemp
              have HM : Hid (MarksIn S rf j i 0 bs) := marks_none hM.out hemp
              clear hemp r3
              go_quiet (fail)
              go_wp2_with fail
              go_meet
              exact ⟨bs, rfl, hH, HM, below_drewN hbel _⟩
            · have hie : (S i).ld.toList.isEmpty = false := by rw [isEmpty_eq]; simpa using hemp
              have hmark := mark_any ra j rc rf rg wq.heap.size a2 n2 c2 f2 g2 (S i).ld bs wo.drew hml hm2 wq.heap.size (HRq.out.below (hbel.drew)) HE'.out.asc (HB2q.out.below hbel.drew) hH (fun h => HE'.out.all _ ⟨i, hlt, .inl ⟨hemp, rfl⟩⟩ h)
              have hkeep : Hid (∀ W : World, Below wq.heap.size wo.drew W → W.cell? ⟨sb, so + i * 5 + 1, none⟩ = some (.string (S i).ld) ∧ W.cell? ⟨w.heap.size, 0, none⟩ = some (.slice a2 n2 c2)) := fun W hW => by
                rw [hW.cell (p := ⟨sb, so + i * 5 + 1, none⟩) hsb, hW.cell (p := ⟨w.heap.size, 0, none⟩) hltq]; exact ⟨r1, hcbo⟩
              have hrefl := Below.refl wq.heap.size wo.drew
              clear hemp r3
              go_region_held3 (fun W => W.cell? ⟨sb, so + i * 5 + 1, none⟩ = some (.string (S i).ld) ∧ W.cell? ⟨w.heap.size, 0, none⟩ = some (.slice a2 n2 c2)) (first | exact hkeep.out _ (by assumption) | go_keep) (first | (go_at_call 13; refine hmark.mono ?_; rintro e w' ⟨bs', rfl, hH', hS', hb'⟩))
              all_goals go_wp2_with fail
              all_goals go_meet
              all_goals exact ⟨bs', rfl, hH', marks_lead HE'.out hM.out hS'.out, hbel.drew.trans hb'⟩
          case rest =>
          obtain ⟨bs1, rfl, hH1, hM1, hbel1⟩ := hcut
          clear hH hM hbel hcbo r1
          go_wp2_with fail
          go_loopg [18] (S i).fn (fun k s18 wr => ∃ (p : Nat) (bs : List Bool), p ≤ (S i).fn ∧ k = (S i).fn - p ∧ s18 = .int .i64 p ∧ Hid (HitAt wr wq.heap.size j bs) ∧ Hid (MarksIn S rf j i p bs) ∧ Below wq.heap.size wq wr)
          case atStart => exact ⟨0, bs1, Nat.zero_le _, rfl, rfl, hH1, hM1, hbel1⟩
          case round =>
            clear hH1 hM1 hbel1
            obtain ⟨p, bs, hp, rfl, rfl, hH, hM, hbel⟩ := hrel
            have hcbo : wr.cell? ⟨w.heap.size, 0, none⟩ = some (.slice a2 n2 c2) := by rw [hbel.cell (p := ⟨w.heap.size, 0, none⟩) hltq]; exact hcbq
            have r3' : wr.cell? ⟨sb, so + i * 5 + 3, none⟩ = some (.slice (S i).fa (S i).fn (S i).fc) := by rw [hbel.cell (p := ⟨sb, so + i * 5 + 3, none⟩) hsb]; exact r3
            clear r3
            by_cases hlt2 : p < (S i).fn
            · obtain ⟨fb, fo, hfa, hfb, hfc⟩ := Hfr.out p hlt2
              have hcm := hfc p hlt2
              rw [← hbel.cell (p := ⟨fb, fo + p, none⟩) hfb] at hcm
              rw [hfa] at r3'
              have hmark := mark_any ra j rc rf rg wq.heap.size a2 n2 c2 f2 g2 ((S i).fs p) bs wr.drew hml hm2 wq.heap.size (HRq.out.below (hbel.drew)) HE'.out.asc (HB2q.out.below hbel.drew) hH (fun h => HE'.out.all _ ⟨i, hlt, .inr ⟨p, hlt2, rfl⟩⟩ h)
              have hkeep : Hid (∀ W : World, Below wq.heap.size wr.drew W → W.cell? ⟨sb, so + i * 5 + 3, none⟩ = some (.slice (some ⟨fb, fo, none⟩) (S i).fn (S i).fc) ∧ W.cell? ⟨w.heap.size, 0, none⟩ = some (.slice a2 n2 c2) ∧ W.cell? ⟨fb, fo + p, none⟩ = some (.string ((S i).fs p))) := fun W hW => by
                rw [hW.cell (p := ⟨sb, so + i * 5 + 3, none⟩) hsb, hW.cell (p := ⟨w.heap.size, 0, none⟩) hltq, hW.cell (p := ⟨fb, fo + p, none⟩) hfb]; exact ⟨r3', hcbo, hcm⟩
              have hrefl := Below.refl wq.heap.size wr.drew
              have hltz : (p : Int) < ((S i).fn : Int) := by omega
              clear hfc hfa
              go_upto_region 34 with fail
              go_region_held3 (fun W => W.cell? ⟨sb, so + i * 5 + 3, none⟩ = some (.slice (some ⟨fb, fo, none⟩) (S i).fn (S i).fc) ∧ W.cell? ⟨w.heap.size, 0, none⟩ = some (.slice a2 n2 c2) ∧ W.cell? ⟨fb, fo + p, none⟩ = some (.string ((S i).fs p))) (first | exact hkeep.out _ (by assumption) | go_keep) (first | (go_at_call 13; refine hmark.mono ?_; rintro e w' ⟨bs', rfl, hH', hS', hb'⟩))
              all_goals go_wp2_with fail
              go_roundg ((S i).fn - (p + 1))
              case measure => omega
              case rel => exact ⟨p + 1, bs', by omega, rfl, by first | rfl | go_num, hH', marks_next HE'.out hM.out hS'.out, hbel.drew.trans hb'⟩
            · have e : p = (S i).fn := by omega
              subst e
              go_wp2_with fail
              go_roundg (n - (i + 1))
              case measure => omega
              case rel => exact ⟨i + 1, bs, by omega, rfl, by first | rfl | go_num, hH, marks_end hM.out, hbel⟩
        · have e : i = n := by omega
          subst e
          clear hlt hi
          have hend : Hid (∀ q, q < j → wo.cell? ⟨wq.heap.size, q, none⟩ = some (.bool true)) := fun q hq => by
            obtain ⟨v, hv, hbv⟩ := hH.out.cell q hq
            rw [hM.out q hq (HE'.out.named q hq)] at hbv
            cases hbv
            exact hv
          clear hH hM hcbo
          go_wp2_with fail
          go_loopg [19] j (fun k s19 wr => wo = wr ∧ ∃ q : Nat, q ≤ j ∧ k = j - q ∧ s19 = .int .i64 q)
          case atStart => exact ⟨rfl, 0, Nat.zero_le _, rfl, rfl⟩
          case round =>
            obtain ⟨rfl, q, hq, rfl, rfl⟩ := hrel
            by_cases hlt2 : q < j
            · have hcq := hend.out q hlt2
              go_wp2_with fail
              go_roundg (j - (q + 1))
              case measure => omega
              case rel => exact ⟨rfl, q + 1, by omega, rfl, by first | rfl | go_num⟩
            · go_wp2_with fail
              go_ret
              exact ⟨rfl, hbelq.trans (hbel.mono hbelq.size)⟩
end Go.Proofs.Qxb6609165a
