/- The walk of FnGrownReusesRoomExactly. -/
import Derived.Test.Qxb6603173aModsGrown
import Derived.Test.Qxb6603173aModsPrefixWalk
import Derived.Laws.BitsAll
import Derived.WalkKit
import Derived.WalkSpells
import Derived.WalkLawsBesides
import Derived.Deep.QuietTactic
import Derived.BigQuiet
namespace Go.Proofs.Qxb6603173aMods.ReuseWalk
open Go.RowKit
open Go.Proofs.Qxb6603173aMods.Grown
open Go.Proofs.Qxb6603173aMods.PrefixWalk (byteAt byteAt_beyond cell_splice make_run')

theorem xor_ff (v : Int) (h0 : 0 ≤ v) (h1 : v ≤ 255) : bits .xor .u8 v 255 = 255 - v := by
  obtain ⟨n, rfl⟩ := Int.eq_ofNat_of_zero_le h0
  have key : ∀ n : Nat, n < 256 → bits .xor .u8 (n : Int) 255 = 255 - (n : Int) := by decide +kernel
  exact key n (by omega)

/-- The byte at place j of the row behind k rounds of the first loop. -/
def mix (z : List Int) (k j : Nat) : Int := if j < k then 255 - byteAt z j else byteAt z j
theorem mix_at (z : List Int) (k : Nat) : mix z k k = byteAt z k := by unfold mix; rw [if_neg (by omega)]
theorem mix_zero (z : List Int) (j : Nat) : mix z 0 j = byteAt z j := by unfold mix; rw [if_neg (by omega)]
theorem mix_done (z : List Int) (k j : Nat) (h : j < k) : mix z k j = 255 - byteAt z j := by unfold mix; rw [if_pos h]

theorem step_cells {wr : World} {g M k : Nat} {z : List Int} (hc : ∀ j, j < M → wr.cell? ⟨g, j, none⟩ = some (.int .u8 (mix z k j))) (hk : k < M) :
    ∀ j, j < M → (wr.setCell ⟨g, k, none⟩ (.int .u8 (255 - byteAt z k))).cell? ⟨g, j, none⟩ = some (.int .u8 (mix z (k + 1) j)) := by
  intro j hj
  by_cases e : j = k
  · subst e
    rw [World.cell?_setCell_same (h := hc j hj), mix_done _ _ _ (by omega)]
  · rw [World.cell?_setCell_other (h := by intro h; injection h with _ h2 _; omega), hc j hj]
    unfold mix
    by_cases l : j < k
    · rw [if_pos l, if_pos (by omega)]
    · rw [if_neg l, if_neg (by omega)]
theorem step_some {wr : World} {g M k : Nat} (hc : ∀ j, j < M → ∃ v : Int, wr.cell? ⟨g, j, none⟩ = some (.int .u8 v)) (hk : k < M) (x : Int) :
    ∀ j, j < M → ∃ v : Int, (wr.setCell ⟨g, k, none⟩ (.int .u8 x)).cell? ⟨g, j, none⟩ = some (.int .u8 v) := by
  intro j hj
  obtain ⟨u, hu⟩ := hc j hj
  by_cases e : j = k
  · subst e
    exact ⟨x, World.cell?_setCell_same _ _ _ hu⟩
  · exact ⟨u, by rw [World.cell?_setCell_other (h := by intro h; injection h with _ h2 _; omega), hu]⟩

theorem bytes7_any (a : Option Addr) (len cap : Nat) (x y : Int) (w : World) (hlen : len ≤ 1048576) :
    Calls Trym.prog 14 #[.slice a len cap, .int .i64 x, .int .i64 y] w fun e w' => e = .returned (.bool true) ∧ w = w' := by
  go_enter Trym.func14, Trym.ntmps14
  go_wp2
  go_ret
  exact ⟨rfl, rfl⟩
theorem bytes7_no (a : Option Addr) (len cap : Nat) (x y : Int) (w : World) (hlen : 1048576 < len) :
    Calls Trym.prog 14 #[.slice a len cap, .int .i64 x, .int .i64 y] w fun e w' => e = .returned (.bool false) ∧ w = w' := by
  go_enter Trym.func14, Trym.ntmps14
  go_wp2
  go_ret
  exact ⟨rfl, rfl⟩
theorem zz_fits' (g len cap n : Nat) (w : World) (h : n ≤ cap) (hc : cap ≤ 4611686018427387904) :
    Calls Trym.prog 13 #[.slice (some ⟨g, 0, none⟩) len cap, .int .i64 n] w fun e w' => e = .returned (.slice (some ⟨g, 0, none⟩) n cap) ∧ w = w' :=
  (zz_fits g len cap n w h hc).mono fun _ _ h => ⟨h.1, h.2.symm⟩

set_option maxHeartbeats 400000 in
theorem fits_long (b off len cap ex n : Nat) (z : List Int) (w : World) (hlen : len ≤ 1048576) (hex : ex ≤ 65536) (hn : n ≤ 65536) (hz : z.length = len) (hfit : n ≤ len + ex) (hm : len < n)
    (hby : ∀ i, 0 ≤ byteAt z i ∧ byteAt z i ≤ 255)
    (hcell : ∀ i, i < len → w.cell? ⟨b, off + i, none⟩ = some (.int .u8 (byteAt z i))) :
    Calls Trym.prog 7 #[.slice (some ⟨b, off, none⟩) len cap, .int .i64 ex, .int .i64 n] w fun e w' => e = .returned (.bool true) ∧ Below w.heap.size w w' := by
  have hmk := fun w => make_run' len ex (by omega) w
  have HB : Below w.heap.size w (w.alloc (rowZ (len + ex))) := (Below.refl _ _).alloc (Nat.le_refl _) _
  obtain ⟨w1, hcp, hg, hb⟩ := copy_run (w.alloc (rowZ (len + ex))) w.heap.size len (len + ex) (some ⟨b, off, none⟩) len cap (zeros (len + ex)) z (row_at w _) hz (Nat.le_refl _)
    (fun _ => ⟨_, rfl, fun j hj => by rw [addr_add]; exact cell_later HB (hcell j hj)⟩) (by rw [len_zeros]; omega)
  have HW : Below w.heap.size w w1 := HB.trans hb
  have HC : Hid (∀ i, i < len + ex → w1.cell? ⟨w.heap.size, i, none⟩ = some (.int .u8 (byteAt z i))) := fun i hi => cell_splice w1 _ _ z (by omega) hg i hi
  have HF : Hid (∀ i, w1.frozen? ⟨w.heap.size, i, none⟩ = false) := fun i => by simp [World.frozen?, hg]
  have HZ : Hid (z.length = len) := hz
  have hs : w.heap.size < w1.heap.size := by have := hb.size; simp at this; omega
  have HBB : Hid (∀ i, i < len → w.cell? ⟨b, off + i, none⟩ = some (.int .u8 (byteAt z i))) := hcell
  have HY : Hid (∀ i, 0 ≤ byteAt z i ∧ byteAt z i ≤ 255) := hby
  clear hg hb HB hcell hz hby
  go_enter Trym.func7, Trym.ntmps7
  go_wp2_with (go_at_call 14; refine (bytes7_any _ _ _ _ _ _ hlen).mono ?_; rintro e w' ⟨rfl, rfl⟩)
  refine (zz_fits' w.heap.size len (len + ex) n w1 hfit (by omega)).mono ?_
  rintro e w' ⟨rfl, rfl⟩
  clear hmk hcp
  go_wp2_with fail
  go_loopw [11] (fun i wr => ∃ k : Nat, k ≤ len ∧ i = .int .i64 k ∧ Hid (∀ j, j < len → wr.cell? ⟨w.heap.size, j, none⟩ = some (.int .u8 (mix z k j))) ∧ Hid (∀ j, wr.frozen? ⟨w.heap.size, j, none⟩ = false) ∧ Below w.heap.size w wr) (fun i _ => len - (intOf i).toNat)
  case atStart => exact ⟨0, Nat.zero_le _, rfl, fun j hj => by rw [mix_zero]; exact HC.out j (by omega), HF, HW⟩
  case round =>
    obtain ⟨k, hk, rfl, hcr, hfr, hbr⟩ := hrel
    by_cases hlt : k < len
    · have hck : wr.cell? ⟨w.heap.size, k, none⟩ = some (.int .u8 (byteAt z k)) := by rw [hcr.out k hlt, mix_at]
      have hfk := hfr.out k
      have hx := xor_ff (byteAt z k) (HY.out k).1 (HY.out k).2
      go_wp2_with fail
      go_roundw
      case rel => exact ⟨k + 1, by omega, by go_num, step_cells hcr.out hlt, fun j => by rw [World.frozen?_setCell]; exact hfr.out j, hbr.setCell (Nat.le_refl _) _⟩
      case measure => simp [intOf]; omega
    · have HB2 : Hid (∀ i, i < len → wr.cell? ⟨b, off + i, none⟩ = some (.int .u8 (byteAt z i))) := fun i hi => cell_later hbr (HBB.out i hi)
      have HC2 : Hid (∀ i, i < len → wr.cell? ⟨w.heap.size, i, none⟩ = some (.int .u8 (255 - byteAt z i))) := fun i hi => by rw [hcr.out i hi, mix_done z k i (by omega)]
      have hsz := hbr.size
      clear HC HF HW HBB hcr hfr
      go_wp2_with fail
      go_loopw [12] (fun i wx => ∃ k2 : Nat, k2 ≤ len ∧ i = .int .i64 k2 ∧ Below wr.heap.size wr wx) (fun i _ => len - (intOf i).toNat)
      case atStart => exact ⟨0, Nat.zero_le _, rfl, Below.refl _ _⟩
      case round =>
        obtain ⟨k2, hk2, rfl, hbw⟩ := hrel
        by_cases hlt2 : k2 < len
        · have hcx := cell_later hbw (HC2.out k2 hlt2)
          have hbx := cell_later hbw (HB2.out k2 (by omega))
          have hi1 : (k2 : Int) < (len : Int) := by omega
          have hne : (255 - byteAt z k2 == byteAt z k2) = false := by simp; omega
          go_wp2_with fail
          go_quiet (fail)
          go_wp2_with fail
          go_roundw
          case rel => exact ⟨k2 + 1, by omega, by go_num, below_drewN hbw _⟩
          case measure => simp [intOf]; omega
        · go_wp2_with fail
          go_ret
          exact ⟨rfl, hbr.trans (hbw.mono hsz)⟩

set_option maxHeartbeats 400000 in
theorem fits_short (b off len cap ex n : Nat) (z : List Int) (w : World) (hlen : len ≤ 1048576) (hex : ex ≤ 65536) (hn : n ≤ 65536) (hz : z.length = len) (hfit : n ≤ len + ex) (hm : n ≤ len)
    (hby : ∀ i, 0 ≤ byteAt z i ∧ byteAt z i ≤ 255)
    (hcell : ∀ i, i < len → w.cell? ⟨b, off + i, none⟩ = some (.int .u8 (byteAt z i))) :
    Calls Trym.prog 7 #[.slice (some ⟨b, off, none⟩) len cap, .int .i64 ex, .int .i64 n] w fun e w' => e = .returned (.bool true) ∧ Below w.heap.size w w' := by
  have hmk := fun w => make_run' len ex (by omega) w
  have HB : Below w.heap.size w (w.alloc (rowZ (len + ex))) := (Below.refl _ _).alloc (Nat.le_refl _) _
  obtain ⟨w1, hcp, hg, hb⟩ := copy_run (w.alloc (rowZ (len + ex))) w.heap.size len (len + ex) (some ⟨b, off, none⟩) len cap (zeros (len + ex)) z (row_at w _) hz (Nat.le_refl _)
    (fun _ => ⟨_, rfl, fun j hj => by rw [addr_add]; exact cell_later HB (hcell j hj)⟩) (by rw [len_zeros]; omega)
  have HW : Below w.heap.size w w1 := HB.trans hb
  have HC : Hid (∀ i, i < len + ex → w1.cell? ⟨w.heap.size, i, none⟩ = some (.int .u8 (byteAt z i))) := fun i hi => cell_splice w1 _ _ z (by omega) hg i hi
  have HF : Hid (∀ i, w1.frozen? ⟨w.heap.size, i, none⟩ = false) := fun i => by simp [World.frozen?, hg]
  have HZ : Hid (z.length = len) := hz
  have hs : w.heap.size < w1.heap.size := by have := hb.size; simp at this; omega
  have HBB : Hid (∀ i, i < len → w.cell? ⟨b, off + i, none⟩ = some (.int .u8 (byteAt z i))) := hcell
  have HY : Hid (∀ i, 0 ≤ byteAt z i ∧ byteAt z i ≤ 255) := hby
  clear hg hb HB hcell hz hby
  go_enter Trym.func7, Trym.ntmps7
  go_wp2_with (go_at_call 14; refine (bytes7_any _ _ _ _ _ _ hlen).mono ?_; rintro e w' ⟨rfl, rfl⟩)
  refine (zz_fits' w.heap.size len (len + ex) n w1 hfit (by omega)).mono ?_
  rintro e w' ⟨rfl, rfl⟩
  clear hmk hcp
  go_wp2_with fail
  go_loopw [11] (fun i wr => ∃ k : Nat, k ≤ n ∧ i = .int .i64 k ∧ Hid (∀ j, j < n → wr.cell? ⟨w.heap.size, j, none⟩ = some (.int .u8 (mix z k j))) ∧ Hid (∀ j, wr.frozen? ⟨w.heap.size, j, none⟩ = false) ∧ Below w.heap.size w wr) (fun i _ => n - (intOf i).toNat)
  case atStart => exact ⟨0, Nat.zero_le _, rfl, fun j hj => by rw [mix_zero]; exact HC.out j (by omega), HF, HW⟩
  case round =>
    obtain ⟨k, hk, rfl, hcr, hfr, hbr⟩ := hrel
    by_cases hlt : k < n
    · have hck : wr.cell? ⟨w.heap.size, k, none⟩ = some (.int .u8 (byteAt z k)) := by rw [hcr.out k hlt, mix_at]
      have hfk := hfr.out k
      have hx := xor_ff (byteAt z k) (HY.out k).1 (HY.out k).2
      go_wp2_with fail
      go_roundw
      case rel => exact ⟨k + 1, by omega, by go_num, step_cells hcr.out hlt, fun j => by rw [World.frozen?_setCell]; exact hfr.out j, hbr.setCell (Nat.le_refl _) _⟩
      case measure => simp [intOf]; omega
    · have HB2 : Hid (∀ i, i < len → wr.cell? ⟨b, off + i, none⟩ = some (.int .u8 (byteAt z i))) := fun i hi => cell_later hbr (HBB.out i hi)
      have HC2 : Hid (∀ i, i < n → wr.cell? ⟨w.heap.size, i, none⟩ = some (.int .u8 (255 - byteAt z i))) := fun i hi => by rw [hcr.out i hi, mix_done z k i (by omega)]
      have hsz := hbr.size
      clear HC HF HW HBB hcr hfr
      go_wp2_with fail
      go_loopw [12] (fun i wx => ∃ k2 : Nat, k2 ≤ n ∧ i = .int .i64 k2 ∧ Below wr.heap.size wr wx) (fun i _ => n - (intOf i).toNat)
      case atStart => exact ⟨0, Nat.zero_le _, rfl, Below.refl _ _⟩
      case round =>
        obtain ⟨k2, hk2, rfl, hbw⟩ := hrel
        by_cases hlt2 : k2 < n
        · have hcx := cell_later hbw (HC2.out k2 hlt2)
          have hbx := cell_later hbw (HB2.out k2 (by omega))
          have hi1 : (k2 : Int) < (len : Int) := by omega
          have hne : (255 - byteAt z k2 == byteAt z k2) = false := by simp; omega
          go_wp2_with fail
          go_quiet (fail)
          go_wp2_with fail
          go_roundw
          case rel => exact ⟨k2 + 1, by omega, by go_num, below_drewN hbw _⟩
          case measure => simp [intOf]; omega
        · go_wp2_with fail
          go_ret
          exact ⟨rfl, hbr.trans (hbw.mono hsz)⟩

set_option maxHeartbeats 400000 in
theorem new (b off len cap ex n : Nat) (z : List Int) (w : World) (hlen : len ≤ 1048576) (hex : ex ≤ 65536) (hn : n ≤ 65536) (hz : z.length = len) (hfit : len + ex < n)
    (hcell : ∀ i, i < len → w.cell? ⟨b, off + i, none⟩ = some (.int .u8 (byteAt z i))) :
    Calls Trym.prog 7 #[.slice (some ⟨b, off, none⟩) len cap, .int .i64 ex, .int .i64 n] w fun e w' => e = .returned (.bool true) ∧ Below w.heap.size w w' := by
  have hmk := fun w => make_run' len ex (by omega) w
  have HB : Below w.heap.size w (w.alloc (rowZ (len + ex))) := (Below.refl _ _).alloc (Nat.le_refl _) _
  obtain ⟨w1, hcp, hg, hb⟩ := copy_run (w.alloc (rowZ (len + ex))) w.heap.size len (len + ex) (some ⟨b, off, none⟩) len cap (zeros (len + ex)) z (row_at w _) hz (Nat.le_refl _)
    (fun _ => ⟨_, rfl, fun j hj => by rw [addr_add]; exact cell_later HB (hcell j hj)⟩) (by rw [len_zeros]; omega)
  have HW : Below w.heap.size w w1 := HB.trans hb
  have HC : Hid (∀ i, i < len + ex → w1.cell? ⟨w.heap.size, i, none⟩ = some (.int .u8 (byteAt z i))) := fun i hi => cell_splice w1 _ _ z (by omega) hg i hi
  have HF : Hid (∀ i, w1.frozen? ⟨w.heap.size, i, none⟩ = false) := fun i => by simp [World.frozen?, hg]
  have HZ : Hid (z.length = len) := hz
  have hs : w.heap.size < w1.heap.size := by have := hb.size; simp at this; omega
  have HBB : Hid (∀ i, i < len → w1.cell? ⟨b, off + i, none⟩ = some (.int .u8 (byteAt z i))) := fun i hi => cell_later HW (hcell i hi)
  clear hg hb HB hcell hz HF
  go_enter Trym.func7, Trym.ntmps7
  go_wp2_with (go_at_call 14; refine (bytes7_any _ _ _ _ _ _ hlen).mono ?_; rintro e w' ⟨rfl, rfl⟩)
  refine (zz_new w.heap.size len (len + ex) n z w1 hfit (by omega) hn HZ.out (fun i hi => HC.out i (by omega))).mono ?_
  rintro e w2 ⟨rfl, hg2, hb2⟩
  have HR : Hid (∀ i, i < n → ∃ v : Int, w2.cell? ⟨w1.heap.size, i, none⟩ = some (.int .u8 v)) := fun i hi => ⟨_, cell_splice w2 _ n z (by have := HZ.out; omega) hg2 i hi⟩
  have HF2 : Hid (∀ i, w2.frozen? ⟨w1.heap.size, i, none⟩ = false) := fun i => by simp [World.frozen?, hg2]
  have hsz := hb2.size
  clear hmk hcp hg2
  go_wp2_with fail
  go_loopw [11] (fun i wr => ∃ k : Nat, k ≤ len ∧ i = .int .i64 k ∧ Hid (∀ j, j < n → ∃ v : Int, wr.cell? ⟨w1.heap.size, j, none⟩ = some (.int .u8 v)) ∧ Hid (∀ j, wr.frozen? ⟨w1.heap.size, j, none⟩ = false) ∧ Below w1.heap.size w1 wr) (fun i _ => len - (intOf i).toNat)
  case atStart => exact ⟨0, Nat.zero_le _, rfl, HR, HF2, hb2⟩
  case round =>
    obtain ⟨k, hk, rfl, hcr, hfr, hbr⟩ := hrel
    by_cases hlt : k < len
    · obtain ⟨v, hck⟩ := hcr.out k (by omega)
      have hfk := hfr.out k
      go_wp2_with fail
      go_roundw
      case rel => exact ⟨k + 1, by omega, by go_num, step_some hcr.out (by omega) _, fun j => by rw [World.frozen?_setCell]; exact hfr.out j, hbr.setCell (Nat.le_refl _) _⟩
      case measure => simp [intOf]; omega
    · have HB2 : Hid (∀ i, i < len → wr.cell? ⟨b, off + i, none⟩ = some (.int .u8 (byteAt z i))) := fun i hi => cell_later hbr (HBB.out i hi)
      have HC2 : Hid (∀ i, i < len → wr.cell? ⟨w.heap.size, i, none⟩ = some (.int .u8 (byteAt z i))) := fun i hi => cell_later hbr (HC.out i (by omega))
      have hsz2 := hbr.size
      have HW2 : Below w.heap.size w wr := HW.trans (hbr.mono (by omega))
      clear HC HW HBB hcr hfr HR HF2 hb2 hbr
      go_wp2_with fail
      go_loopw [12] (fun i wx => ∃ k2 : Nat, k2 ≤ len ∧ i = .int .i64 k2 ∧ Below wr.heap.size wr wx) (fun i _ => len - (intOf i).toNat)
      case atStart => exact ⟨0, Nat.zero_le _, rfl, Below.refl _ _⟩
      case round =>
        obtain ⟨k2, hk2, rfl, hbw⟩ := hrel
        by_cases hlt2 : k2 < len
        · have hcx := cell_later hbw (HC2.out k2 hlt2)
          have hbx := cell_later hbw (HB2.out k2 (by omega))
          have hi1 : (k2 : Int) < (len : Int) := by omega
          go_wp2_with fail
          go_quiet (fail)
          go_wp2_with fail
          go_roundw
          case rel => exact ⟨k2 + 1, by omega, by go_num, below_drewN hbw _⟩
          case measure => simp [intOf]; omega
        · go_wp2_with fail
          go_ret
          exact ⟨rfl, HW2.trans (hbw.mono HW2.size)⟩

set_option maxHeartbeats 400000 in
theorem zero_long (a0 : Option Addr) (len cap ex n : Nat) (z : List Int) (w : World) (hlen : len ≤ 1048576) (hex : ex ≤ 65536) (hn : n ≤ 65536) (hz : z.length = len) (h00 : len ≤ 0) (hfit : n ≤ len + ex) (hm : len < n) :
    Calls Trym.prog 7 #[.slice a0 len cap, .int .i64 ex, .int .i64 n] w fun e w' => e = .returned (.bool true) ∧ Below w.heap.size w w' := by
  have hmk := fun w => make_run' len ex (by omega) w
  have HB : Below w.heap.size w (w.alloc (rowZ (len + ex))) := (Below.refl _ _).alloc (Nat.le_refl _) _
  obtain ⟨w1, hcp, hg, hb⟩ := copy_run (w.alloc (rowZ (len + ex))) w.heap.size len (len + ex) a0 len cap (zeros (len + ex)) z (row_at w _) hz (Nat.le_refl _)
    (fun h => by omega) (by rw [len_zeros]; omega)
  have HW : Below w.heap.size w w1 := HB.trans hb
  have HC : Hid (∀ i, i < len + ex → w1.cell? ⟨w.heap.size, i, none⟩ = some (.int .u8 (byteAt z i))) := fun i hi => cell_splice w1 _ _ z (by omega) hg i hi
  have HF : Hid (∀ i, w1.frozen? ⟨w.heap.size, i, none⟩ = false) := fun i => by simp [World.frozen?, hg]
  have HZ : Hid (z.length = len) := hz
  have hs : w.heap.size < w1.heap.size := by have := hb.size; simp at this; omega
  clear hg hb HB hz HF
  go_enter Trym.func7, Trym.ntmps7
  go_wp2_with (go_at_call 14; refine (bytes7_any _ _ _ _ _ _ hlen).mono ?_; rintro e w' ⟨rfl, rfl⟩)
  refine (zz_fits' w.heap.size len (len + ex) n w1 hfit (by omega)).mono ?_
  rintro e w' ⟨rfl, rfl⟩
  clear hmk hcp HC HZ
  go_wp2_with fail
  go_loop [11] (fun i => ∃ k : Nat, i = .int .i64 k) (fun i => len - (intOf i).toNat)
  case atStart => exact ⟨0, rfl⟩
  case round =>
    obtain ⟨k, rfl⟩ := hrel
    go_wp2_with fail
    go_loop [12] (fun i => ∃ k2 : Nat, i = .int .i64 k2) (fun i => len - (intOf i).toNat)
    case atStart => exact ⟨0, rfl⟩
    case round =>
      obtain ⟨k2, rfl⟩ := hrel
      go_wp2_with fail
      go_ret
      exact ⟨rfl, HW⟩

set_option maxHeartbeats 400000 in
theorem zero_short (a0 : Option Addr) (len cap ex n : Nat) (z : List Int) (w : World) (hlen : len ≤ 1048576) (hex : ex ≤ 65536) (hn : n ≤ 65536) (hz : z.length = len) (h00 : len ≤ 0) (hfit : n ≤ len + ex) (hm : n ≤ len) :
    Calls Trym.prog 7 #[.slice a0 len cap, .int .i64 ex, .int .i64 n] w fun e w' => e = .returned (.bool true) ∧ Below w.heap.size w w' := by
  have hmk := fun w => make_run' len ex (by omega) w
  have HB : Below w.heap.size w (w.alloc (rowZ (len + ex))) := (Below.refl _ _).alloc (Nat.le_refl _) _
  obtain ⟨w1, hcp, hg, hb⟩ := copy_run (w.alloc (rowZ (len + ex))) w.heap.size len (len + ex) a0 len cap (zeros (len + ex)) z (row_at w _) hz (Nat.le_refl _)
    (fun h => by omega) (by rw [len_zeros]; omega)
  have HW : Below w.heap.size w w1 := HB.trans hb
  have HC : Hid (∀ i, i < len + ex → w1.cell? ⟨w.heap.size, i, none⟩ = some (.int .u8 (byteAt z i))) := fun i hi => cell_splice w1 _ _ z (by omega) hg i hi
  have HF : Hid (∀ i, w1.frozen? ⟨w.heap.size, i, none⟩ = false) := fun i => by simp [World.frozen?, hg]
  have HZ : Hid (z.length = len) := hz
  have hs : w.heap.size < w1.heap.size := by have := hb.size; simp at this; omega
  clear hg hb HB hz HF
  go_enter Trym.func7, Trym.ntmps7
  go_wp2_with (go_at_call 14; refine (bytes7_any _ _ _ _ _ _ hlen).mono ?_; rintro e w' ⟨rfl, rfl⟩)
  refine (zz_fits' w.heap.size len (len + ex) n w1 hfit (by omega)).mono ?_
  rintro e w' ⟨rfl, rfl⟩
  clear hmk hcp HC HZ
  go_wp2_with fail
  go_loop [11] (fun i => ∃ k : Nat, i = .int .i64 k) (fun i => n - (intOf i).toNat)
  case atStart => exact ⟨0, rfl⟩
  case round =>
    obtain ⟨k, rfl⟩ := hrel
    go_wp2_with fail
    go_loop [12] (fun i => ∃ k2 : Nat, i = .int .i64 k2) (fun i => n - (intOf i).toNat)
    case atStart => exact ⟨0, rfl⟩
    case round =>
      obtain ⟨k2, rfl⟩ := hrel
      go_wp2_with fail
      go_ret
      exact ⟨rfl, HW⟩

set_option maxHeartbeats 400000 in
theorem zero_new (a0 : Option Addr) (len cap ex n : Nat) (z : List Int) (w : World) (hlen : len ≤ 1048576) (hex : ex ≤ 65536) (hn : n ≤ 65536) (hz : z.length = len) (h00 : len ≤ 0) (hfit : len + ex < n) :
    Calls Trym.prog 7 #[.slice a0 len cap, .int .i64 ex, .int .i64 n] w fun e w' => e = .returned (.bool true) ∧ Below w.heap.size w w' := by
  have hmk := fun w => make_run' len ex (by omega) w
  have HB : Below w.heap.size w (w.alloc (rowZ (len + ex))) := (Below.refl _ _).alloc (Nat.le_refl _) _
  obtain ⟨w1, hcp, hg, hb⟩ := copy_run (w.alloc (rowZ (len + ex))) w.heap.size len (len + ex) a0 len cap (zeros (len + ex)) z (row_at w _) hz (Nat.le_refl _)
    (fun h => by omega) (by rw [len_zeros]; omega)
  have HW : Below w.heap.size w w1 := HB.trans hb
  have HC : Hid (∀ i, i < len + ex → w1.cell? ⟨w.heap.size, i, none⟩ = some (.int .u8 (byteAt z i))) := fun i hi => cell_splice w1 _ _ z (by omega) hg i hi
  have HF : Hid (∀ i, w1.frozen? ⟨w.heap.size, i, none⟩ = false) := fun i => by simp [World.frozen?, hg]
  have HZ : Hid (z.length = len) := hz
  have hs : w.heap.size < w1.heap.size := by have := hb.size; simp at this; omega
  clear hg hb HB hz HF
  go_enter Trym.func7, Trym.ntmps7
  go_wp2_with (go_at_call 14; refine (bytes7_any _ _ _ _ _ _ hlen).mono ?_; rintro e w' ⟨rfl, rfl⟩)
  refine (zz_new w.heap.size len (len + ex) n z w1 hfit (by omega) hn HZ.out (fun i hi => HC.out i (by omega))).mono ?_
  rintro e w2 ⟨rfl, hg2, hb2⟩
  replace HW : Below w.heap.size w w2 := HW.trans (hb2.mono (by omega))
  clear hg2 hb2
  clear hmk hcp HC HZ
  go_wp2_with fail
  go_loop [11] (fun i => ∃ k : Nat, i = .int .i64 k) (fun i => len - (intOf i).toNat)
  case atStart => exact ⟨0, rfl⟩
  case round =>
    obtain ⟨k, rfl⟩ := hrel
    go_wp2_with fail
    go_loop [12] (fun i => ∃ k2 : Nat, i = .int .i64 k2) (fun i => len - (intOf i).toNat)
    case atStart => exact ⟨0, rfl⟩
    case round =>
      obtain ⟨k2, rfl⟩ := hrel
      go_wp2_with fail
      go_ret
      exact ⟨rfl, HW⟩

set_option maxHeartbeats 400000 in
theorem walk (a0 : Option Addr) (len cap : Nat) (x y : Int) (z : List Int) (w : World) (hm : len ≤ maxLen) (hz : z.length = len)
    (hby : ∀ i, 0 ≤ byteAt z i ∧ byteAt z i ≤ 255)
    (hpos : 0 < len → ∃ b off, a0 = some ⟨b, off, none⟩ ∧ ∀ i, i < len → w.cell? ⟨b, off + i, none⟩ = some (.int .u8 (byteAt z i))) :
    Calls Trym.prog 7 #[.slice a0 len cap, .int .i64 x, .int .i64 y] w fun e w' => e = .returned (.bool true) ∧ Below w.heap.size w w' := by
  unfold maxLen at hm
  by_cases c0 : 1048576 < len
  · clear hpos hz hby
    go_enter Trym.func7, Trym.ntmps7
    go_wp2_with (go_at_call 14; refine (bytes7_no _ _ _ _ _ _ c0).mono ?_; rintro e w' ⟨rfl, rfl⟩)
    go_ret
    exact ⟨rfl, Below.refl _ _⟩
  have c1 : len ≤ 1048576 := by omega
  by_cases x0 : x < 0
  · clear hpos hz hby
    go_enter Trym.func7, Trym.ntmps7
    go_wp2_with (go_at_call 14; refine (bytes7_any _ _ _ _ _ _ c1).mono ?_; rintro e w' ⟨rfl, rfl⟩)
    go_ret
    exact ⟨rfl, Below.refl _ _⟩
  by_cases x1 : 65536 < x
  · clear hpos hz hby
    go_enter Trym.func7, Trym.ntmps7
    go_wp2_with (go_at_call 14; refine (bytes7_any _ _ _ _ _ _ c1).mono ?_; rintro e w' ⟨rfl, rfl⟩)
    go_ret
    exact ⟨rfl, Below.refl _ _⟩
  by_cases y0 : y < 0
  · clear hpos hz hby
    go_enter Trym.func7, Trym.ntmps7
    go_wp2_with (go_at_call 14; refine (bytes7_any _ _ _ _ _ _ c1).mono ?_; rintro e w' ⟨rfl, rfl⟩)
    go_ret
    exact ⟨rfl, Below.refl _ _⟩
  by_cases y1 : 65536 < y
  · clear hpos hz hby
    go_enter Trym.func7, Trym.ntmps7
    go_wp2_with (go_at_call 14; refine (bytes7_any _ _ _ _ _ _ c1).mono ?_; rintro e w' ⟨rfl, rfl⟩)
    go_ret
    exact ⟨rfl, Below.refl _ _⟩
  obtain ⟨ex, rfl⟩ := Int.eq_ofNat_of_zero_le (show 0 ≤ x by omega)
  obtain ⟨n, rfl⟩ := Int.eq_ofNat_of_zero_le (show 0 ≤ y by omega)
  by_cases h : 0 < len
  · obtain ⟨b, off, rfl, hc⟩ := hpos h
    by_cases hfit : n ≤ len + ex
    · by_cases hl : len < n
      · exact fits_long b off len cap ex n z w c1 (by omega) (by omega) hz hfit hl hby hc
      · exact fits_short b off len cap ex n z w c1 (by omega) (by omega) hz hfit (by omega) hby hc
    · exact new b off len cap ex n z w c1 (by omega) (by omega) hz (by omega) hc
  · by_cases hfit : n ≤ len + ex
    · by_cases hl : len < n
      · exact zero_long a0 len cap ex n z w c1 (by omega) (by omega) hz (by omega) hfit hl
      · exact zero_short a0 len cap ex n z w c1 (by omega) (by omega) hz (by omega) hfit (by omega)
    · exact zero_new a0 len cap ex n z w c1 (by omega) (by omega) hz (by omega) (by omega)
end Go.Proofs.Qxb6603173aMods.ReuseWalk
