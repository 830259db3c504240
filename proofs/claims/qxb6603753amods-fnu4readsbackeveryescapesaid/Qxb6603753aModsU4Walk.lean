/- The walk of FnU4ReadsBackEveryEscape. -/
import Derived.Test.Qxb6603753aModsHex
import Derived.Test.Qxb6603753aModsMem
import Derived.WalkKit
import Derived.WalkSpells
import Derived.WalkLawsBesides
namespace Go.Proofs.Qxb6603753aMods.U4Walk
open Go.RowKit
open Go.Proofs.Qxb6603753aMods.Hex (hexF nib acc nib_bd hexDigit_any zzu4_any)
open Go.Proofs.Qxb6603753aMods.Mem

theorem bytes6_any (x y : Int) (a : Option Addr) (len cap : Nat) (w : World) (hlen : len ≤ 1048576) :
    Calls Trym.prog 6 #[.int .u16 x, .int .u8 y, .slice a len cap] w fun e w' => e = .returned (.bool true) ∧ w = w' := by
  go_enter Trym.func6, Trym.ntmps6
  go_wp2
  go_ret
  exact ⟨rfl, rfl⟩
theorem bytes6_no (x y : Int) (a : Option Addr) (len cap : Nat) (w : World) (hlen : 1048576 < len) :
    Calls Trym.prog 6 #[.int .u16 x, .int .u8 y, .slice a len cap] w fun e w' => e = .returned (.bool false) ∧ w = w' := by
  go_enter Trym.func6, Trym.ntmps6
  go_wp2
  go_ret
  exact ⟨rfl, rfl⟩

theorem make6_run (x : Nat) (hc : x ≤ 65536) (w : World) :
    (Instr.makeSlice 23 (.int .i64 0) (.int .i64 (6 + (x : Int)))).run Trym.prog w = .ok (.slice (some ⟨w.heap.size, 0, none⟩) 0 (6 + x)) (w.alloc (rowZ (6 + x))) := by
  have := make_run 0 (6 + x) (by omega) (by omega) w
  rwa [Int.natCast_add] at this

/-- 'ds' are the digits of the first nibbles of c, each in one case or the other. -/
def Digs (c : Int) (ds : List Int) : Prop := ∀ j, j < ds.length → ∃ u : Bool, ds.getD j 0 = hexF (nib c j) u
theorem digs_nil (c : Int) : Digs c [] := fun j h => absurd h (Nat.not_lt_zero j)
theorem digs_snoc {c : Int} {ds : List Int} (h : Digs c ds) (u : Bool) : Digs c (ds ++ [hexF (nib c ds.length) u]) := by
  intro j hj
  by_cases e : j < ds.length
  · obtain ⟨v, hv⟩ := h j e
    exact ⟨v, by rw [List.getD_eq_getElem?_getD, List.getElem?_append_left e, ← List.getD_eq_getElem?_getD]; exact hv⟩
  · have : j = ds.length := by simp at hj; omega
    subst this
    exact ⟨u, by simp⟩

theorem owns_made (w : World) (n : Nat) (hn : n ≤ 9223372036854775807) : (w.alloc (rowZ n)).ownsRow w.heap.size 5 1 (.slice (some ⟨w.heap.size, 0, none⟩) 0 n) 0 [] :=
  World.ownsRow_made w _ n (Nat.le_refl _) hn (by simp [zeros])
theorem two_new (w : World) (n : Nat) : ∀ j u, ([.int .u8 92, .int .u8 117] : List Value)[j]? = some u →
    ((w.alloc (rowZ n)).alloc (.cells #[.int .u8 92, .int .u8 117] 5)).cell? ((⟨w.heap.size + 1, 0, none⟩ : Addr).add j) = some u := by
  have := cell_two_new (w.alloc (rowZ n)) (.int .u8 92) (.int .u8 117) 5
  rwa [World.size_alloc] at this

theorem snoc_cells (ds : List Int) (d : Int) : cellsOf (92 :: 117 :: ds) ++ [.int .u8 d] = cellsOf (92 :: 117 :: (ds ++ [d])) := by
  simp [cellsOf]
theorem digs_next {c n : Int} {k : Nat} {ds : List Int} (h : Digs c ds) (hl : ds.length = k) (hn : n = nib c k) (u : Bool) : Digs c (ds ++ [hexF n u]) := by
  subst hn; subst hl; exact digs_snoc h u
theorem tail_cells {W wr : World} {g len : Nat} {z : List Int} (hb : Below W.heap.size W wr) (hc : ∀ i, i < len → W.cell? ⟨g, i, none⟩ = some (.int .u8 (z.getD i 0))) (hz : z.length = len)
    {ad : Addr} (h : some (⟨g, 0, none⟩ : Addr) = some ad) : ∀ j u, (cellsOf z)[j]? = some u → wr.cell? (ad.add j) = some u := by
  injection h with h
  subst h
  intro j u hju
  obtain ⟨hj, rfl⟩ := get_cellsOf z j u hju
  rw [addr_add, Nat.zero_add]
  exact cell_later hb (hc j (by omega))
theorem digs_four {c : Int} {ds : List Int} (hl : ds.length = 4) (h : Digs c ds) : ∃ u : Nat → Bool, ∀ j, j < 4 → ds.getD j 0 = hexF (nib c j) (u j) := by
  obtain ⟨u0, e0⟩ := h 0 (by omega)
  obtain ⟨u1, e1⟩ := h 1 (by omega)
  obtain ⟨u2, e2⟩ := h 2 (by omega)
  obtain ⟨u3, e3⟩ := h 3 (by omega)
  refine ⟨fun j => if j = 0 then u0 else if j = 1 then u1 else if j = 2 then u2 else u3, fun j hj => ?_⟩
  rcases (show j = 0 ∨ j = 1 ∨ j = 2 ∨ j = 3 from by omega) with rfl | rfl | rfl | rfl
  · simpa using e0
  · simpa using e1
  · simpa using e2
  · simpa using e3
theorem cells_final {w : World} {B g N C : Nat} {ds : List Int} {rest : List Value} (h : w.ownsRow B 5 1 (.slice (some ⟨g, 0, none⟩) N C) N (cellsOf (92 :: 117 :: ds) ++ rest)) (hN : 6 ≤ N) (hl : ds.length = 4) :
    w.cell? ⟨g, 0, none⟩ = some (.int .u8 92) ∧ w.cell? ⟨g, 1, none⟩ = some (.int .u8 117) ∧ ∀ j, j < 4 → w.cell? ⟨g, 2 + j, none⟩ = some (.int .u8 (ds.getD j 0)) := by
  refine ⟨?_, ?_, fun j hj => ?_⟩
  · rw [h.cellAt 0 (by omega)]; rfl
  · rw [h.cellAt 1 (by omega)]; rfl
  · rw [h.cellAt (2 + j) (by omega), List.getElem?_append_left (by rw [len_cellsOf]; simp; omega), cellsOf_get _ _ (by simp; omega), Nat.add_comm]
    rfl

set_option maxHeartbeats 1000000 in
theorem walk_nil (c m : Int) (len cap : Nat) (w : World) (h0 : 0 ≤ c) (h1 : c < 65536) (hlen : len ≤ 0) (hcap : cap ≤ 0) :
    Calls Trym.prog 3 #[.int .u16 c, .int .u8 m, .slice none len cap] w fun e w' => e = .returned (.bool true) ∧ Below w.heap.size w w' := by
  have hnn := fun w => run_neq_slice_nil_any (P := Trym.prog) w 23 5 none len cap 0 0 Trym.underlying23
  have hmk := fun w => make6_run len (by omega) w
  obtain ⟨i0, hi, hz0, hz1, hz2⟩ := info_parts info5
  have HO := owns_made w (6 + len) (by omega)
  have HT := two_new w (6 + len)
  obtain ⟨z, HZ⟩ : ∃ z : List Int, Hid ((cellsOf z).length = len * 1) := ⟨[], by show 0 = _; omega⟩
  go_enter Trym.func3, Trym.ntmps3
  go_wp2_with fail
  refine (bytes6_any _ _ _ _ _ _ (by omega)).mono ?_
  rintro e w' ⟨rfl, rfl⟩
  go_wp2_with (at_builtin; (refine wpList_append_fits _ rfl (.tmp 34) (.tmp 35) 23 rfl w.heap.size 5 i0 1 Trym.underlying23 hi hz1 w.heap.size 0 (6 + len) [] rfl (HO.alloc _) ⟨w.heap.size + 1, 0, none⟩ 2 2 [.int .u8 92, .int .u8 117] rfl rfl HT (by simp [Value.oneCell']) (by omega) ?_); intro w1 hown1 hgrow1)
  have HW1 : Below w.heap.size w w1 := ((((Below.refl _ _).alloc (Nat.le_refl _) _).alloc (by simp) _).grown hgrow1 (by simp; omega) (by intro k hk; injection hk with hk; omega))
  have HO1 : Hid (w1.ownsRow w.heap.size 5 1 (.slice (some ⟨w.heap.size, 0, none⟩) 2 (6 + len)) 2 (cellsOf (92 :: 117 :: []))) := hown1
  clear hown1 hgrow1 hmk hnn HO HT
  go_wp2_with fail
  go_loopw [8, 9] (fun v i wr => ∃ (k : Nat) (ds : List Int), k ≤ 4 ∧ i = .int .i64 k ∧ v = .slice (some ⟨w.heap.size, 0, none⟩) (2 + k) (6 + len) ∧ Hid (ds.length = k) ∧ Hid (Digs c ds) ∧
      Hid (wr.ownsRow w.heap.size 5 1 (.slice (some ⟨w.heap.size, 0, none⟩) (2 + k) (6 + len)) (2 + k) (cellsOf (92 :: 117 :: ds))) ∧ Below w.heap.size w wr) (fun _ i _ => 4 - (intOf i).toNat)
  case atStart => exact ⟨0, [], Nat.zero_le _, rfl, rfl, rfl, digs_nil c, HO1, HW1⟩
  case round =>
    obtain ⟨k, ds, hk, rfl, rfl, HL, HD, HOr, hbr⟩ := hrel
    by_cases hlt : k < 4
    · rcases (show k = 0 ∨ k = 1 ∨ k = 2 ∨ k = 3 from by omega) with rfl | rfl | rfl | rfl
      · obtain ⟨n, HN⟩ : ∃ n, Hid (n = nib c 0) := ⟨_, rfl⟩
        have hN : bits .and .u16 (c / 4096) 15 = n := by rw [HN.out]; simp only [nib]; go_bits2
        have hnb : 0 ≤ n ∧ n < 16 := by rw [HN.out]; exact nib_bd c 0
        go_wp2_with fail
        refine (hexDigit_any n _ _ hnb.1 hnb.2).mono ?_
        rintro e w' ⟨rfl, rfl⟩
        go_wp2_with (at_builtin; (refine wpList_append_fits _ rfl (.tmp 56) (.tmp 60) 23 rfl w.heap.size 5 i0 1 Trym.underlying23 hi hz1 w.heap.size (2 + 0) (6 + len) (cellsOf (92 :: 117 :: ds)) rfl (HOr.out.alloc _) ⟨wr.heap.size, 0, none⟩ 1 1 [.int .u8 (hexF n (bits .and .u8 m 1 == 1))] rfl rfl (cell_one_new _ _ _) (by simp [Value.oneCell']) (by omega) ?_); intro w2 hown2 hgrow2)
        rw [snoc_cells] at hown2
        have HO2 : Hid (w2.ownsRow w.heap.size 5 1 (.slice (some ⟨w.heap.size, 0, none⟩) (2 + (0 + 1)) (6 + len)) (2 + (0 + 1)) (cellsOf (92 :: 117 :: (ds ++ [hexF n (bits .and .u8 m 1 == 1)])))) := hown2
        have hsz := hbr.size
        have HW2 : Below w.heap.size w w2 := (hbr.alloc hsz _).grown hgrow2 (by simp; omega) (by intro k hk; injection hk with hk; omega)
        clear hown2 hgrow2
        go_wp2_with fail
        go_roundw
        case rel => exact ⟨0 + 1, ds ++ [hexF n (bits .and .u8 m 1 == 1)], by omega, by go_num, rfl, by have := HL.out; simp [Hid, this], digs_next HD.out HL.out HN.out _, HO2, HW2⟩
        case measure => simp [intOf]
      · obtain ⟨n, HN⟩ : ∃ n, Hid (n = nib c 1) := ⟨_, rfl⟩
        have hN : bits .and .u16 (c / 256) 15 = n := by rw [HN.out]; simp only [nib]; go_bits2
        have hnb : 0 ≤ n ∧ n < 16 := by rw [HN.out]; exact nib_bd c 1
        go_wp2_with fail
        refine (hexDigit_any n _ _ hnb.1 hnb.2).mono ?_
        rintro e w' ⟨rfl, rfl⟩
        go_wp2_with (at_builtin; (refine wpList_append_fits _ rfl (.tmp 56) (.tmp 60) 23 rfl w.heap.size 5 i0 1 Trym.underlying23 hi hz1 w.heap.size (2 + 1) (6 + len) (cellsOf (92 :: 117 :: ds)) rfl (HOr.out.alloc _) ⟨wr.heap.size, 0, none⟩ 1 1 [.int .u8 (hexF n (bits .and .u8 (m / 2) 1 == 1))] rfl rfl (cell_one_new _ _ _) (by simp [Value.oneCell']) (by omega) ?_); intro w2 hown2 hgrow2)
        rw [snoc_cells] at hown2
        have HO2 : Hid (w2.ownsRow w.heap.size 5 1 (.slice (some ⟨w.heap.size, 0, none⟩) (2 + (1 + 1)) (6 + len)) (2 + (1 + 1)) (cellsOf (92 :: 117 :: (ds ++ [hexF n (bits .and .u8 (m / 2) 1 == 1)])))) := hown2
        have hsz := hbr.size
        have HW2 : Below w.heap.size w w2 := (hbr.alloc hsz _).grown hgrow2 (by simp; omega) (by intro k hk; injection hk with hk; omega)
        clear hown2 hgrow2
        go_wp2_with fail
        go_roundw
        case rel => exact ⟨1 + 1, ds ++ [hexF n (bits .and .u8 (m / 2) 1 == 1)], by omega, by go_num, rfl, by have := HL.out; simp [Hid, this], digs_next HD.out HL.out HN.out _, HO2, HW2⟩
        case measure => simp [intOf]
      · obtain ⟨n, HN⟩ : ∃ n, Hid (n = nib c 2) := ⟨_, rfl⟩
        have hN : bits .and .u16 (c / 16) 15 = n := by rw [HN.out]; simp only [nib]; go_bits2
        have hnb : 0 ≤ n ∧ n < 16 := by rw [HN.out]; exact nib_bd c 2
        go_wp2_with fail
        refine (hexDigit_any n _ _ hnb.1 hnb.2).mono ?_
        rintro e w' ⟨rfl, rfl⟩
        go_wp2_with (at_builtin; (refine wpList_append_fits _ rfl (.tmp 56) (.tmp 60) 23 rfl w.heap.size 5 i0 1 Trym.underlying23 hi hz1 w.heap.size (2 + 2) (6 + len) (cellsOf (92 :: 117 :: ds)) rfl (HOr.out.alloc _) ⟨wr.heap.size, 0, none⟩ 1 1 [.int .u8 (hexF n (bits .and .u8 (m / 4) 1 == 1))] rfl rfl (cell_one_new _ _ _) (by simp [Value.oneCell']) (by omega) ?_); intro w2 hown2 hgrow2)
        rw [snoc_cells] at hown2
        have HO2 : Hid (w2.ownsRow w.heap.size 5 1 (.slice (some ⟨w.heap.size, 0, none⟩) (2 + (2 + 1)) (6 + len)) (2 + (2 + 1)) (cellsOf (92 :: 117 :: (ds ++ [hexF n (bits .and .u8 (m / 4) 1 == 1)])))) := hown2
        have hsz := hbr.size
        have HW2 : Below w.heap.size w w2 := (hbr.alloc hsz _).grown hgrow2 (by simp; omega) (by intro k hk; injection hk with hk; omega)
        clear hown2 hgrow2
        go_wp2_with fail
        go_roundw
        case rel => exact ⟨2 + 1, ds ++ [hexF n (bits .and .u8 (m / 4) 1 == 1)], by omega, by go_num, rfl, by have := HL.out; simp [Hid, this], digs_next HD.out HL.out HN.out _, HO2, HW2⟩
        case measure => simp [intOf]
      · obtain ⟨n, HN⟩ : ∃ n, Hid (n = nib c 3) := ⟨_, rfl⟩
        have hN : bits .and .u16 c 15 = n := by rw [HN.out]; simp only [nib]; go_bits2
        have hnb : 0 ≤ n ∧ n < 16 := by rw [HN.out]; exact nib_bd c 3
        go_wp2_with fail
        refine (hexDigit_any n _ _ hnb.1 hnb.2).mono ?_
        rintro e w' ⟨rfl, rfl⟩
        go_wp2_with (at_builtin; (refine wpList_append_fits _ rfl (.tmp 56) (.tmp 60) 23 rfl w.heap.size 5 i0 1 Trym.underlying23 hi hz1 w.heap.size (2 + 3) (6 + len) (cellsOf (92 :: 117 :: ds)) rfl (HOr.out.alloc _) ⟨wr.heap.size, 0, none⟩ 1 1 [.int .u8 (hexF n (bits .and .u8 (m / 8) 1 == 1))] rfl rfl (cell_one_new _ _ _) (by simp [Value.oneCell']) (by omega) ?_); intro w2 hown2 hgrow2)
        rw [snoc_cells] at hown2
        have HO2 : Hid (w2.ownsRow w.heap.size 5 1 (.slice (some ⟨w.heap.size, 0, none⟩) (2 + (3 + 1)) (6 + len)) (2 + (3 + 1)) (cellsOf (92 :: 117 :: (ds ++ [hexF n (bits .and .u8 (m / 8) 1 == 1)])))) := hown2
        have hsz := hbr.size
        have HW2 : Below w.heap.size w w2 := (hbr.alloc hsz _).grown hgrow2 (by simp; omega) (by intro k hk; injection hk with hk; omega)
        clear hown2 hgrow2
        go_wp2_with fail
        go_roundw
        case rel => exact ⟨3 + 1, ds ++ [hexF n (bits .and .u8 (m / 8) 1 == 1)], by omega, by go_num, rfl, by have := HL.out; simp [Hid, this], digs_next HD.out HL.out HN.out _, HO2, HW2⟩
        case measure => simp [intOf]
    · obtain rfl : k = 4 := by omega
      go_wp2_with (at_builtin; (refine wpList_append_fits_any _ rfl (.tmp 62) (.tmp 63) 23 rfl w.heap.size 5 i0 1 Trym.underlying23 hi hz1 w.heap.size (2 + 4) (6 + len) (cellsOf (92 :: 117 :: ds)) rfl HOr.out none len cap (cellsOf z) rfl HZ.out (fun _ => ⟨by omega, by omega⟩) (fun ad h => by cases h) (one_cellsOf z) (by omega) ?_); intro w3 hown3 hgrow3)
      have hsz := hbr.size
      have HW3 : Below w.heap.size w w3 := hbr.grown hgrow3 hsz (by intro k hk; injection hk with hk; omega)
      obtain ⟨u, hu⟩ := digs_four HL.out HD.out
      have hf := cells_final hown3 (by omega) HL.out
      have HF : Hid (∀ j, j < 4 → w3.cell? ⟨w.heap.size, 2 + j, none⟩ = some (.int .u8 (hexF (nib c j) (u j)))) := fun j hj => by rw [← hu j hj]; exact hf.2.2 j hj
      have hf0 := hf.1
      have hf1 := hf.2.1
      clear hown3 hgrow3 hf hu
      go_wp2_with fail
      refine (zzu4_any w.heap.size _ _ c u w3 h0 h1 (by omega) (by omega) (by omega) hf0 hf1 HF.out).mono ?_
      rintro e w' ⟨rfl, rfl⟩
      go_wp2_with fail
      go_ret
      exact ⟨rfl, HW3⟩

set_option maxHeartbeats 1000000 in
theorem walk_some (x : Addr) (c m : Int) (len cap : Nat) (z : List Int) (w : World) (h0 : 0 ≤ c) (h1 : c < 65536) (hlen : len ≤ 65536) (hz : z.length = len)
    (hcell : ∀ i, i < len → w.cell? (x.add i) = some (.int .u8 (z.getD i 0))) :
    Calls Trym.prog 3 #[.int .u16 c, .int .u8 m, .slice (some x) len cap] w fun e w' => e = .returned (.bool true) ∧ Below w.heap.size w w' := by
  have hnn := fun w => run_neq_slice_nil_any (P := Trym.prog) w 23 5 (some x) len cap 0 0 Trym.underlying23
  have hmk := fun w => make6_run len (by omega) w
  have hmk2 := fun w => make_run len len (Nat.le_refl _) (by omega) w
  obtain ⟨i0, hi, hz0, hz1, hz2⟩ := info_parts info5
  have HB : Below w.heap.size w (w.alloc (rowZ len)) := (Below.refl _ _).alloc (Nat.le_refl _) _
  obtain ⟨wc, hcp, hg, hb⟩ := copy_run (w.alloc (rowZ len)) w.heap.size len len (some x) len cap (zeros len) z (row_at w _) hz (Nat.le_refl _)
    (fun _ => ⟨_, rfl, fun j hj => cell_later HB (hcell j hj)⟩) (by rw [len_zeros]; omega)
  rw [splice_all len z hz] at hg
  have HWc : Below w.heap.size w wc := HB.trans hb
  have HC : Hid (∀ i, i < len → wc.cell? ⟨w.heap.size, i, none⟩ = some (.int .u8 (z.getD i 0))) := fun i hi => Go.Proofs.Qxb6603753aMods.Mem.cell_of_row hg i (by omega)
  have HO := owns_made wc (6 + len) (by omega)
  have HT := two_new wc (6 + len)
  have HZ : Hid ((cellsOf z).length = len * 1) := by show _ = _; rw [len_cellsOf]; omega
  have HZ2 : Hid (z.length = len) := hz
  clear hg hb HB hcell hz
  go_enter Trym.func3, Trym.ntmps3
  go_wp2_with fail
  refine (bytes6_any _ _ _ _ _ _ (by omega)).mono ?_
  rintro e w' ⟨rfl, rfl⟩
  go_wp2_with (at_builtin; (refine wpList_append_fits _ rfl (.tmp 34) (.tmp 35) 23 rfl wc.heap.size 5 i0 1 Trym.underlying23 hi hz1 wc.heap.size 0 (6 + len) [] rfl (HO.alloc _) ⟨wc.heap.size + 1, 0, none⟩ 2 2 [.int .u8 92, .int .u8 117] rfl rfl HT (by simp [Value.oneCell']) (by omega) ?_); intro w1 hown1 hgrow1)
  have HW1 : Below wc.heap.size wc w1 := ((((Below.refl _ _).alloc (Nat.le_refl _) _).alloc (by simp) _).grown hgrow1 (by simp; omega) (by intro k hk; injection hk with hk; omega))
  have HO1 : Hid (w1.ownsRow wc.heap.size 5 1 (.slice (some ⟨wc.heap.size, 0, none⟩) 2 (6 + len)) 2 (cellsOf (92 :: 117 :: []))) := hown1
  clear hown1 hgrow1 hmk hnn HO HT
  go_wp2_with fail
  go_loopw [8, 9] (fun v i wr => ∃ (k : Nat) (ds : List Int), k ≤ 4 ∧ i = .int .i64 k ∧ v = .slice (some ⟨wc.heap.size, 0, none⟩) (2 + k) (6 + len) ∧ Hid (ds.length = k) ∧ Hid (Digs c ds) ∧
      Hid (wr.ownsRow wc.heap.size 5 1 (.slice (some ⟨wc.heap.size, 0, none⟩) (2 + k) (6 + len)) (2 + k) (cellsOf (92 :: 117 :: ds))) ∧ Below wc.heap.size wc wr) (fun _ i _ => 4 - (intOf i).toNat)
  case atStart => exact ⟨0, [], Nat.zero_le _, rfl, rfl, rfl, digs_nil c, HO1, HW1⟩
  case round =>
    obtain ⟨k, ds, hk, rfl, rfl, HL, HD, HOr, hbr⟩ := hrel
    by_cases hlt : k < 4
    · rcases (show k = 0 ∨ k = 1 ∨ k = 2 ∨ k = 3 from by omega) with rfl | rfl | rfl | rfl
      · obtain ⟨n, HN⟩ : ∃ n, Hid (n = nib c 0) := ⟨_, rfl⟩
        have hN : bits .and .u16 (c / 4096) 15 = n := by rw [HN.out]; simp only [nib]; go_bits2
        have hnb : 0 ≤ n ∧ n < 16 := by rw [HN.out]; exact nib_bd c 0
        go_wp2_with fail
        refine (hexDigit_any n _ _ hnb.1 hnb.2).mono ?_
        rintro e w' ⟨rfl, rfl⟩
        go_wp2_with (at_builtin; (refine wpList_append_fits _ rfl (.tmp 56) (.tmp 60) 23 rfl wc.heap.size 5 i0 1 Trym.underlying23 hi hz1 wc.heap.size (2 + 0) (6 + len) (cellsOf (92 :: 117 :: ds)) rfl (HOr.out.alloc _) ⟨wr.heap.size, 0, none⟩ 1 1 [.int .u8 (hexF n (bits .and .u8 m 1 == 1))] rfl rfl (cell_one_new _ _ _) (by simp [Value.oneCell']) (by omega) ?_); intro w2 hown2 hgrow2)
        rw [snoc_cells] at hown2
        have HO2 : Hid (w2.ownsRow wc.heap.size 5 1 (.slice (some ⟨wc.heap.size, 0, none⟩) (2 + (0 + 1)) (6 + len)) (2 + (0 + 1)) (cellsOf (92 :: 117 :: (ds ++ [hexF n (bits .and .u8 m 1 == 1)])))) := hown2
        have hsz := hbr.size
        have HW2 : Below wc.heap.size wc w2 := (hbr.alloc hsz _).grown hgrow2 (by simp; omega) (by intro k hk; injection hk with hk; omega)
        clear hown2 hgrow2
        go_wp2_with fail
        go_roundw
        case rel => exact ⟨0 + 1, ds ++ [hexF n (bits .and .u8 m 1 == 1)], by omega, by go_num, rfl, by have := HL.out; simp [Hid, this], digs_next HD.out HL.out HN.out _, HO2, HW2⟩
        case measure => simp [intOf]
      · obtain ⟨n, HN⟩ : ∃ n, Hid (n = nib c 1) := ⟨_, rfl⟩
        have hN : bits .and .u16 (c / 256) 15 = n := by rw [HN.out]; simp only [nib]; go_bits2
        have hnb : 0 ≤ n ∧ n < 16 := by rw [HN.out]; exact nib_bd c 1
        go_wp2_with fail
        refine (hexDigit_any n _ _ hnb.1 hnb.2).mono ?_
        rintro e w' ⟨rfl, rfl⟩
        go_wp2_with (at_builtin; (refine wpList_append_fits _ rfl (.tmp 56) (.tmp 60) 23 rfl wc.heap.size 5 i0 1 Trym.underlying23 hi hz1 wc.heap.size (2 + 1) (6 + len) (cellsOf (92 :: 117 :: ds)) rfl (HOr.out.alloc _) ⟨wr.heap.size, 0, none⟩ 1 1 [.int .u8 (hexF n (bits .and .u8 (m / 2) 1 == 1))] rfl rfl (cell_one_new _ _ _) (by simp [Value.oneCell']) (by omega) ?_); intro w2 hown2 hgrow2)
        rw [snoc_cells] at hown2
        have HO2 : Hid (w2.ownsRow wc.heap.size 5 1 (.slice (some ⟨wc.heap.size, 0, none⟩) (2 + (1 + 1)) (6 + len)) (2 + (1 + 1)) (cellsOf (92 :: 117 :: (ds ++ [hexF n (bits .and .u8 (m / 2) 1 == 1)])))) := hown2
        have hsz := hbr.size
        have HW2 : Below wc.heap.size wc w2 := (hbr.alloc hsz _).grown hgrow2 (by simp; omega) (by intro k hk; injection hk with hk; omega)
        clear hown2 hgrow2
        go_wp2_with fail
        go_roundw
        case rel => exact ⟨1 + 1, ds ++ [hexF n (bits .and .u8 (m / 2) 1 == 1)], by omega, by go_num, rfl, by have := HL.out; simp [Hid, this], digs_next HD.out HL.out HN.out _, HO2, HW2⟩
        case measure => simp [intOf]
      · obtain ⟨n, HN⟩ : ∃ n, Hid (n = nib c 2) := ⟨_, rfl⟩
        have hN : bits .and .u16 (c / 16) 15 = n := by rw [HN.out]; simp only [nib]; go_bits2
        have hnb : 0 ≤ n ∧ n < 16 := by rw [HN.out]; exact nib_bd c 2
        go_wp2_with fail
        refine (hexDigit_any n _ _ hnb.1 hnb.2).mono ?_
        rintro e w' ⟨rfl, rfl⟩
        go_wp2_with (at_builtin; (refine wpList_append_fits _ rfl (.tmp 56) (.tmp 60) 23 rfl wc.heap.size 5 i0 1 Trym.underlying23 hi hz1 wc.heap.size (2 + 2) (6 + len) (cellsOf (92 :: 117 :: ds)) rfl (HOr.out.alloc _) ⟨wr.heap.size, 0, none⟩ 1 1 [.int .u8 (hexF n (bits .and .u8 (m / 4) 1 == 1))] rfl rfl (cell_one_new _ _ _) (by simp [Value.oneCell']) (by omega) ?_); intro w2 hown2 hgrow2)
        rw [snoc_cells] at hown2
        have HO2 : Hid (w2.ownsRow wc.heap.size 5 1 (.slice (some ⟨wc.heap.size, 0, none⟩) (2 + (2 + 1)) (6 + len)) (2 + (2 + 1)) (cellsOf (92 :: 117 :: (ds ++ [hexF n (bits .and .u8 (m / 4) 1 == 1)])))) := hown2
        have hsz := hbr.size
        have HW2 : Below wc.heap.size wc w2 := (hbr.alloc hsz _).grown hgrow2 (by simp; omega) (by intro k hk; injection hk with hk; omega)
        clear hown2 hgrow2
        go_wp2_with fail
        go_roundw
        case rel => exact ⟨2 + 1, ds ++ [hexF n (bits .and .u8 (m / 4) 1 == 1)], by omega, by go_num, rfl, by have := HL.out; simp [Hid, this], digs_next HD.out HL.out HN.out _, HO2, HW2⟩
        case measure => simp [intOf]
      · obtain ⟨n, HN⟩ : ∃ n, Hid (n = nib c 3) := ⟨_, rfl⟩
        have hN : bits .and .u16 c 15 = n := by rw [HN.out]; simp only [nib]; go_bits2
        have hnb : 0 ≤ n ∧ n < 16 := by rw [HN.out]; exact nib_bd c 3
        go_wp2_with fail
        refine (hexDigit_any n _ _ hnb.1 hnb.2).mono ?_
        rintro e w' ⟨rfl, rfl⟩
        go_wp2_with (at_builtin; (refine wpList_append_fits _ rfl (.tmp 56) (.tmp 60) 23 rfl wc.heap.size 5 i0 1 Trym.underlying23 hi hz1 wc.heap.size (2 + 3) (6 + len) (cellsOf (92 :: 117 :: ds)) rfl (HOr.out.alloc _) ⟨wr.heap.size, 0, none⟩ 1 1 [.int .u8 (hexF n (bits .and .u8 (m / 8) 1 == 1))] rfl rfl (cell_one_new _ _ _) (by simp [Value.oneCell']) (by omega) ?_); intro w2 hown2 hgrow2)
        rw [snoc_cells] at hown2
        have HO2 : Hid (w2.ownsRow wc.heap.size 5 1 (.slice (some ⟨wc.heap.size, 0, none⟩) (2 + (3 + 1)) (6 + len)) (2 + (3 + 1)) (cellsOf (92 :: 117 :: (ds ++ [hexF n (bits .and .u8 (m / 8) 1 == 1)])))) := hown2
        have hsz := hbr.size
        have HW2 : Below wc.heap.size wc w2 := (hbr.alloc hsz _).grown hgrow2 (by simp; omega) (by intro k hk; injection hk with hk; omega)
        clear hown2 hgrow2
        go_wp2_with fail
        go_roundw
        case rel => exact ⟨3 + 1, ds ++ [hexF n (bits .and .u8 (m / 8) 1 == 1)], by omega, by go_num, rfl, by have := HL.out; simp [Hid, this], digs_next HD.out HL.out HN.out _, HO2, HW2⟩
        case measure => simp [intOf]
    · obtain rfl : k = 4 := by omega
      go_wp2_with (at_builtin; (refine wpList_append_fits_any _ rfl (.tmp 62) (.tmp 63) 23 rfl wc.heap.size 5 i0 1 Trym.underlying23 hi hz1 wc.heap.size (2 + 4) (6 + len) (cellsOf (92 :: 117 :: ds)) rfl HOr.out (some ⟨w.heap.size, 0, none⟩) len len (cellsOf z) rfl HZ.out (fun h => by cases h) (fun ad h => tail_cells hbr HC.out HZ2.out h) (one_cellsOf z) (by omega) ?_); intro w3 hown3 hgrow3)
      have hsz := hbr.size
      have HW3 : Below wc.heap.size wc w3 := hbr.grown hgrow3 hsz (by intro k hk; injection hk with hk; omega)
      obtain ⟨u, hu⟩ := digs_four HL.out HD.out
      have hf := cells_final hown3 (by omega) HL.out
      have HF : Hid (∀ j, j < 4 → w3.cell? ⟨wc.heap.size, 2 + j, none⟩ = some (.int .u8 (hexF (nib c j) (u j)))) := fun j hj => by rw [← hu j hj]; exact hf.2.2 j hj
      have hf0 := hf.1
      have hf1 := hf.2.1
      clear hown3 hgrow3 hf hu
      go_wp2_with fail
      refine (zzu4_any wc.heap.size _ _ c u w3 h0 h1 (by omega) (by omega) (by omega) hf0 hf1 HF.out).mono ?_
      rintro e w' ⟨rfl, rfl⟩
      go_wp2_with fail
      go_ret
      exact ⟨rfl, HWc.trans (HW3.mono HWc.size)⟩

set_option maxHeartbeats 400000 in
theorem walk (a0 : Option Addr) (c m : Int) (len cap : Nat) (z : List Int) (w : World) (h0 : 0 ≤ c) (h1 : c < 65536) (hm : len ≤ maxLen) (hz : z.length = len)
    (hnone : a0 = none → len = 0 ∧ cap = 0) (hcell : ∀ x, a0 = some x → ∀ i, i < len → w.cell? (x.add i) = some (.int .u8 (z.getD i 0))) :
    Calls Trym.prog 3 #[.int .u16 c, .int .u8 m, .slice a0 len cap] w fun e w' => e = .returned (.bool true) ∧ Below w.heap.size w w' := by
  unfold maxLen at hm
  by_cases c0 : 1048576 < len
  · clear hcell hz hnone
    go_enter Trym.func3, Trym.ntmps3
    go_wp2_with fail
    refine (bytes6_no _ _ _ _ _ _ c0).mono ?_
    rintro e w' ⟨rfl, rfl⟩
    go_wp2_with fail
    go_ret
    exact ⟨rfl, Below.refl _ _⟩
  by_cases c1 : 65536 < len
  · clear hcell hz hnone
    go_enter Trym.func3, Trym.ntmps3
    go_wp2_with fail
    refine (bytes6_any _ _ _ _ _ _ (by omega)).mono ?_
    rintro e w' ⟨rfl, rfl⟩
    go_wp2_with fail
    go_ret
    exact ⟨rfl, Below.refl _ _⟩
  cases a0 with
  | none =>
    obtain ⟨e1, e2⟩ := hnone rfl
    exact walk_nil c m len cap w h0 h1 (by omega) (by omega)
  | some x => exact walk_some x c m len cap z w h0 h1 (by omega) hz (hcell x rfl)
end Go.Proofs.Qxb6603753aMods.U4Walk
