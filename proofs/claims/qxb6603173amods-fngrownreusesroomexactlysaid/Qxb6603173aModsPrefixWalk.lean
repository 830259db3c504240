/- The walk of FnGrownPrefixThenZeros. -/
import Derived.Test.Qxb6603173aModsGrown
import Derived.WalkKit
import Derived.WalkSpells
import Derived.WalkLawsBesides
import Derived.Deep.QuietTactic
import Derived.BigQuiet
namespace Go.Proofs.Qxb6603173aMods.PrefixWalk
open Go.RowKit
open Go.Proofs.Qxb6603173aMods.Grown

/-- The byte at place i: nought beyond the list. -/
def byteAt (z : List Int) (i : Nat) : Int := z.getD i 0
theorem byteAt_beyond (z : List Int) (i : Nat) (h : z.length ≤ i) : byteAt z i = 0 := by
  unfold byteAt; rw [List.getD_eq_getElem?_getD, List.getElem?_eq_none h]; rfl

theorem cell_splice (w1 : World) (g c : Nat) (z : List Int) (_hz : z.length ≤ c) (hg : w1.heap[g]? = some (.cells (splice (zeros c) 0 (cellsOf z)).toArray 5 (0, 0))) (i : Nat) (hi : i < c) :
    w1.cell? ⟨g, i, none⟩ = some (.int .u8 (byteAt z i)) := by
  have e : (splice (zeros c) 0 (cellsOf z))[i]? = some (.int .u8 (byteAt z i)) := by
    unfold splice byteAt
    rw [List.take_zero, List.nil_append, Nat.zero_add, len_cellsOf, List.getElem?_append, len_cellsOf]
    split
    · rename_i h
      rw [cellsOf, List.getElem?_map, List.getElem?_eq_getElem h, List.getD_eq_getElem?_getD, List.getElem?_eq_getElem h]
      rfl
    · rename_i h
      rw [List.getElem?_drop, zeros, List.getElem?_replicate, if_pos (by omega), List.getD_eq_getElem?_getD, List.getElem?_eq_none (by omega)]
      rfl
  simp [World.cell?, hg, e]

theorem grown_read (g len cap n : Nat) (z : List Int) (w : World) (hl : len ≤ cap) (hc : cap ≤ 4611686018427387904) (hn : n ≤ 65536) (hz : z.length = len)
    (hcell : ∀ i, i < cap → w.cell? ⟨g, i, none⟩ = some (.int .u8 (byteAt z i))) :
    Calls Trym.prog 13 #[.slice (some ⟨g, 0, none⟩) len cap, .int .i64 n] w fun e w' => ∃ g' c', e = .returned (.slice (some ⟨g', 0, none⟩) n c') ∧
      (∀ i, i < n → w'.cell? ⟨g', i, none⟩ = some (.int .u8 (byteAt z i))) ∧ Below w.heap.size w w' := by
  by_cases h : n ≤ cap
  · refine (zz_fits g len cap n w h hc).mono ?_
    rintro e w' ⟨rfl, rfl⟩
    exact ⟨g, cap, rfl, fun i hi => hcell i (by omega), Below.refl _ _⟩
  · refine (zz_new g len cap n z w (by omega) hl hn hz (fun i hi => hcell i (by omega))).mono ?_
    rintro e w' ⟨rfl, hg, hb⟩
    exact ⟨w.heap.size, n, rfl, fun i hi => cell_splice w' _ n z (by omega) hg i hi, hb⟩

theorem bytes6_any (a : Option Addr) (len cap : Nat) (x y : Int) (w : World) (hlen : len ≤ 1048576) :
    Calls Trym.prog 12 #[.slice a len cap, .int .i64 x, .int .i64 y] w fun e w' => e = .returned (.bool true) ∧ w = w' := by
  go_enter Trym.func12, Trym.ntmps12
  go_wp2
  go_ret
  exact ⟨rfl, rfl⟩
theorem bytes6_no (a : Option Addr) (len cap : Nat) (x y : Int) (w : World) (hlen : 1048576 < len) :
    Calls Trym.prog 12 #[.slice a len cap, .int .i64 x, .int .i64 y] w fun e w' => e = .returned (.bool false) ∧ w = w' := by
  go_enter Trym.func12, Trym.ntmps12
  go_wp2
  go_ret
  exact ⟨rfl, rfl⟩

theorem make_run' (l x : Nat) (hc : l + x ≤ 281474976710656) (w : World) :
    (Instr.makeSlice 27 (.int .i64 l) (.int .i64 ((l : Int) + (x : Int)))).run Trym.prog w = .ok (.slice (some ⟨w.heap.size, 0, none⟩) l (l + x)) (w.alloc (rowZ (l + x))) := by
  have := make_run l (l + x) (by omega) hc w
  rwa [Int.natCast_add] at this

set_option maxHeartbeats 400000 in
theorem walk_some (b off len cap ex n : Nat) (z : List Int) (w : World) (hlen : len ≤ 1048576) (hex : ex ≤ 65536) (hn : n ≤ 65536) (hz : z.length = len)
    (hcell : ∀ i, i < len → w.cell? ⟨b, off + i, none⟩ = some (.int .u8 (byteAt z i))) :
    Calls Trym.prog 6 #[.slice (some ⟨b, off, none⟩) len cap, .int .i64 ex, .int .i64 n] w fun e w' => e = .returned (.bool true) ∧ Below w.heap.size w w' := by
  have hmk := fun w => make_run' len ex (by omega) w
  have HB : Below w.heap.size w (w.alloc (rowZ (len + ex))) := (Below.refl _ _).alloc (Nat.le_refl _) _
  obtain ⟨w1, hcp, hg, hb⟩ := copy_run (w.alloc (rowZ (len + ex))) w.heap.size len (len + ex) (some ⟨b, off, none⟩) len cap (zeros (len + ex)) z (row_at w _) hz (Nat.le_refl _)
    (fun _ => ⟨_, rfl, fun j hj => by rw [addr_add]; exact cell_later HB (hcell j hj)⟩) (by rw [len_zeros]; omega)
  have HW : Below w.heap.size w w1 := HB.trans hb
  have HC : Hid (∀ i, i < len + ex → w1.cell? ⟨w.heap.size, i, none⟩ = some (.int .u8 (byteAt z i))) := fun i hi => cell_splice w1 _ _ z (by omega) hg i hi
  have HBB : Hid (∀ i, i < len → w1.cell? ⟨b, off + i, none⟩ = some (.int .u8 (byteAt z i))) := fun i hi => cell_later HW (hcell i hi)
  have HZ : Hid (z.length = len) := hz
  have hs : w.heap.size < w1.heap.size := by have := hb.size; simp at this; omega
  clear hg hb HB hcell hz
  go_enter Trym.func6, Trym.ntmps6
  go_wp2_with (go_at_call 12; refine (bytes6_any _ _ _ _ _ _ hlen).mono ?_; rintro e w' ⟨rfl, rfl⟩)
  refine (grown_read w.heap.size len (len + ex) n z w1 (by omega) (by omega) hn HZ.out HC.out).mono ?_
  rintro e w2 ⟨g', c', rfl, hr, hb2⟩
  have HR : Hid (∀ i, i < n → w2.cell? ⟨g', i, none⟩ = some (.int .u8 (byteAt z i))) := hr
  have HC2 : Hid (∀ i, i < len → w2.cell? ⟨w.heap.size, i, none⟩ = some (.int .u8 (byteAt z i))) := fun i hi => cell_later hb2 (HC.out i (by omega))
  have HB2 : Hid (∀ i, i < len → w2.cell? ⟨b, off + i, none⟩ = some (.int .u8 (byteAt z i))) := fun i hi => cell_later hb2 (HBB.out i hi)
  have HW2 : Below w.heap.size w w2 := HW.trans (hb2.mono (by omega))
  have hs2 : w.heap.size < w2.heap.size := by have := hb2.size; omega
  clear hr hb2 HC HBB hcp hmk HW hs
  go_wp2_with fail
  go_loop [9] (fun i => ∃ k : Nat, k ≤ n ∧ i = .int .i64 k) (fun i => n - (intOf i).toNat)
  case atStart => exact ⟨0, Nat.zero_le _, rfl⟩
  case round =>
    obtain ⟨k, hk, rfl⟩ := hrel
    by_cases hlt : k < n
    · have hcx := HR.out k hlt
      by_cases hkl : k < len
      · have hbx := HB2.out k hkl
        go_wp2_with fail
        go_round
        case rel => exact ⟨k + 1, by omega, by go_num⟩
        case measure => simp [intOf]; omega
      · have hv : byteAt z k = 0 := byteAt_beyond z k (by have := HZ.out; omega)
        go_wp2_with fail
        go_round
        case rel => exact ⟨k + 1, by omega, by go_num⟩
        case measure => simp [intOf]; omega
    · clear HR
      go_wp2_with fail
      go_loopw [11] (fun i wr => ∃ k : Nat, k ≤ len ∧ i = .int .i64 k ∧ Below w2.heap.size w2 wr) (fun i _ => len - (intOf i).toNat)
      case atStart => exact ⟨0, Nat.zero_le _, rfl, Below.refl _ _⟩
      case round =>
        obtain ⟨k2, hk2, rfl, hbw⟩ := hrel
        by_cases hlt2 : k2 < len
        · have hcx := cell_later hbw (HC2.out k2 hlt2)
          have hbx := cell_later hbw (HB2.out k2 hlt2)
          have hi1 : (k2 : Int) < (len : Int) := by omega
          go_wp2_with fail
          go_quiet (fail)
          go_wp2_with fail
          go_roundw
          case rel => exact ⟨k2 + 1, by omega, by go_num, below_drewN hbw _⟩
          case measure => simp [intOf]; omega
        · go_wp2_with fail
          go_ret
          exact ⟨rfl, HW2.trans (hbw.mono (by omega))⟩
set_option maxHeartbeats 400000 in
theorem walk_zero (a0 : Option Addr) (len cap ex n : Nat) (z : List Int) (w : World) (hlen : len ≤ 1048576) (hex : ex ≤ 65536) (hn : n ≤ 65536) (hz : z.length = len) (h00 : len ≤ 0) :
    Calls Trym.prog 6 #[.slice a0 len cap, .int .i64 ex, .int .i64 n] w fun e w' => e = .returned (.bool true) ∧ Below w.heap.size w w' := by
  have hmk := fun w => make_run' len ex (by omega) w
  have HB : Below w.heap.size w (w.alloc (rowZ (len + ex))) := (Below.refl _ _).alloc (Nat.le_refl _) _
  obtain ⟨w1, hcp, hg, hb⟩ := copy_run (w.alloc (rowZ (len + ex))) w.heap.size len (len + ex) a0 len cap (zeros (len + ex)) z (row_at w _) hz (Nat.le_refl _)
    (fun h => by omega) (by rw [len_zeros]; omega)
  have HW : Below w.heap.size w w1 := HB.trans hb
  have HC : Hid (∀ i, i < len + ex → w1.cell? ⟨w.heap.size, i, none⟩ = some (.int .u8 (byteAt z i))) := fun i hi => cell_splice w1 _ _ z (by omega) hg i hi
  have HZ : Hid (z.length = len) := hz
  have hs : w.heap.size < w1.heap.size := by have := hb.size; simp at this; omega
  clear hg hb HB hz
  go_enter Trym.func6, Trym.ntmps6
  go_wp2_with (go_at_call 12; refine (bytes6_any _ _ _ _ _ _ hlen).mono ?_; rintro e w' ⟨rfl, rfl⟩)
  refine (grown_read w.heap.size len (len + ex) n z w1 (by omega) (by omega) hn HZ.out HC.out).mono ?_
  rintro e w2 ⟨g', c', rfl, hr, hb2⟩
  have HR : Hid (∀ i, i < n → w2.cell? ⟨g', i, none⟩ = some (.int .u8 (byteAt z i))) := hr
  have HW2 : Below w.heap.size w w2 := HW.trans (hb2.mono (by omega))
  have hs2 : w.heap.size < w2.heap.size := by have := hb2.size; omega
  clear hr hb2 HC hcp hmk HW hs
  go_wp2_with fail
  go_loop [9] (fun i => ∃ k : Nat, k ≤ n ∧ i = .int .i64 k) (fun i => n - (intOf i).toNat)
  case atStart => exact ⟨0, Nat.zero_le _, rfl⟩
  case round =>
    obtain ⟨k, hk, rfl⟩ := hrel
    by_cases hlt : k < n
    · have hcx := HR.out k hlt
      have hv : byteAt z k = 0 := byteAt_beyond z k (by have := HZ.out; omega)
      go_wp2_with fail
      go_round
      case rel => exact ⟨k + 1, by omega, by go_num⟩
      case measure => simp [intOf]; omega
    · clear HR
      go_wp2_with fail
      go_loopw [11] (fun i wr => ∃ k : Nat, k ≤ len ∧ i = .int .i64 k ∧ Below w2.heap.size w2 wr) (fun i _ => len - (intOf i).toNat)
      case atStart => exact ⟨0, Nat.zero_le _, rfl, Below.refl _ _⟩
      case round =>
        obtain ⟨k2, hk2, rfl, hbw⟩ := hrel
        go_wp2_with fail
        go_ret
        exact ⟨rfl, HW2.trans (hbw.mono (by omega))⟩

set_option maxHeartbeats 400000 in
theorem walk (a0 : Option Addr) (len cap : Nat) (x y : Int) (z : List Int) (w : World) (hm : len ≤ maxLen) (hz : z.length = len)
    (hpos : 0 < len → ∃ b off, a0 = some ⟨b, off, none⟩ ∧ ∀ i, i < len → w.cell? ⟨b, off + i, none⟩ = some (.int .u8 (byteAt z i))) :
    Calls Trym.prog 6 #[.slice a0 len cap, .int .i64 x, .int .i64 y] w fun e w' => e = .returned (.bool true) ∧ Below w.heap.size w w' := by
  unfold maxLen at hm
  by_cases c0 : 1048576 < len
  · clear hpos hz
    go_enter Trym.func6, Trym.ntmps6
    go_wp2_with (go_at_call 12; refine (bytes6_no _ _ _ _ _ _ c0).mono ?_; rintro e w' ⟨rfl, rfl⟩)
    go_ret
    exact ⟨rfl, Below.refl _ _⟩
  have c1 : len ≤ 1048576 := by omega
  by_cases x0 : x < 0
  · clear hpos hz
    go_enter Trym.func6, Trym.ntmps6
    go_wp2_with (go_at_call 12; refine (bytes6_any _ _ _ _ _ _ c1).mono ?_; rintro e w' ⟨rfl, rfl⟩)
    go_ret
    exact ⟨rfl, Below.refl _ _⟩
  by_cases x1 : 65536 < x
  · clear hpos hz
    go_enter Trym.func6, Trym.ntmps6
    go_wp2_with (go_at_call 12; refine (bytes6_any _ _ _ _ _ _ c1).mono ?_; rintro e w' ⟨rfl, rfl⟩)
    go_ret
    exact ⟨rfl, Below.refl _ _⟩
  by_cases y0 : y < 0
  · clear hpos hz
    go_enter Trym.func6, Trym.ntmps6
    go_wp2_with (go_at_call 12; refine (bytes6_any _ _ _ _ _ _ c1).mono ?_; rintro e w' ⟨rfl, rfl⟩)
    go_ret
    exact ⟨rfl, Below.refl _ _⟩
  by_cases y1 : 65536 < y
  · clear hpos hz
    go_enter Trym.func6, Trym.ntmps6
    go_wp2_with (go_at_call 12; refine (bytes6_any _ _ _ _ _ _ c1).mono ?_; rintro e w' ⟨rfl, rfl⟩)
    go_ret
    exact ⟨rfl, Below.refl _ _⟩
  obtain ⟨ex, rfl⟩ := Int.eq_ofNat_of_zero_le (show 0 ≤ x by omega)
  obtain ⟨n, rfl⟩ := Int.eq_ofNat_of_zero_le (show 0 ≤ y by omega)
  by_cases h : 0 < len
  · obtain ⟨b, off, rfl, hc⟩ := hpos h
    exact walk_some b off len cap ex n z w c1 (by omega) (by omega) hz hc
  · exact walk_zero a0 len cap ex n z w c1 (by omega) (by omega) hz (by omega)
end Go.Proofs.Qxb6603173aMods.PrefixWalk
