/- hexDigit, u4, ZZu4: plain functions and contracts. -/
import Derived.Test.Qxb6603753aModsProg
import Derived.Laws.BitsAll
import Derived.WalkKit
import Derived.WalkSpells
import Derived.WalkLawsBesides
namespace Go.Proofs.Qxb6603753aMods.Hex
open Go.RowKit

theorem ret_int {k : IntKind} {a b : Int} (h : a = b) : Ending.returned (.int k a) = .returned (.int k b) := by rw [h]
theorem addr_add (g o j : Nat) : (⟨g, o, none⟩ : Addr).add j = ⟨g, o + j, none⟩ := by
  unfold Addr.add; split <;> simp_all

/-- The byte of a hexadecimal digit. -/
def hexF (v : Int) (u : Bool) : Int := if v < 10 then 48 + v else if u = true then 55 + v else 87 + v

theorem low_at : ∀ (n : Nat) (h : n < 16), (((⟨#[48, 49, 50, 51, 52, 53, 54, 55, 56, 57, 97, 98, 99, 100, 101, 102]⟩ : ByteArray)[n]'h).toNat : Int) = hexF n false := by decide
theorem up_at : ∀ (n : Nat) (h : n < 16), (((⟨#[48, 49, 50, 51, 52, 53, 54, 55, 56, 57, 65, 66, 67, 68, 69, 70]⟩ : ByteArray)[n]'h).toNat : Int) = hexF n true := by decide

set_option maxHeartbeats 400000 in
theorem hexDigit_any (v : Int) (u : Bool) (w : World) (h0 : 0 ≤ v) (h1 : v < 16) :
    Calls Trym.prog 7 #[.int .i64 v, .bool u] w fun e w' => e = .returned (.int .u8 (hexF v u)) ∧ w = w' := by
  obtain ⟨n, rfl⟩ := Int.eq_ofNat_of_zero_le h0
  cases u
  · go_enter Trym.func7, Trym.ntmps7
    go_wp2
    go_ret
    exact ⟨ret_int (low_at n (by omega)), rfl⟩
  · go_enter Trym.func7, Trym.ntmps7
    go_wp2
    go_ret
    exact ⟨ret_int (up_at n (by omega)), rfl⟩

/-- The four nibbles of a code unit, the highest first, and the number that the first k of them make. -/
def nib (c : Int) : Nat → Int
  | 0 => c / 4096 % 16
  | 1 => c / 256 % 16
  | 2 => c / 16 % 16
  | _ => c % 16
def acc (c : Int) : Nat → Int
  | 0 => 0
  | 1 => c / 4096
  | 2 => c / 256
  | 3 => c / 16
  | _ => c
theorem nib_bd (c : Int) (k : Nat) : 0 ≤ nib c k ∧ nib c k < 16 := by
  unfold nib; split <;> omega
theorem acc_bd (c : Int) (k : Nat) (h0 : 0 ≤ c) (h1 : c < 65536) (hk : k < 4) : 0 ≤ acc c k ∧ acc c k < 4096 := by
  rcases (show k = 0 ∨ k = 1 ∨ k = 2 ∨ k = 3 from by omega) with rfl | rfl | rfl | rfl <;> simp only [acc] <;> omega
theorem acc_step (c : Int) (k : Nat) (h0 : 0 ≤ c) (h1 : c < 65536) (hk : k < 4) : acc c k * 16 + nib c k = acc c (k + 1) := by
  rcases (show k = 0 ∨ k = 1 ∨ k = 2 ∨ k = 3 from by omega) with rfl | rfl | rfl | rfl <;> simp only [acc, nib] <;> omega

theorem or4 (a x : Int) (h0 : 0 ≤ a) (h1 : a < 4096) (hx0 : 0 ≤ x) (hx1 : x < 16) : bits .or .i32 (a * 16) x = a * 16 + x :=
  bits_join .i32 31 (by decide) wraps_i32 4 (a * 16) x (by omega) (by omega) (by omega) (by omega) (by omega) (by omega)

set_option maxHeartbeats 400000 in
theorem u4_any (g L C : Nat) (c : Int) (u : Nat → Bool) (w : World) (h0 : 0 ≤ c) (h1 : c < 65536) (hL : 6 ≤ L) (hC : L ≤ C) (hC2 : C ≤ 4611686018427387904)
    (c0 : w.cell? ⟨g, 0, none⟩ = some (.int .u8 92)) (c1 : w.cell? ⟨g, 1, none⟩ = some (.int .u8 117))
    (hcell : ∀ j, j < 4 → w.cell? ⟨g, 2 + j, none⟩ = some (.int .u8 (hexF (nib c j) (u j)))) :
    Calls Trym.prog 17 #[.slice (some ⟨g, 0, none⟩) L C] w fun e w' => e = .returned (.int .i32 c) ∧ w = w' := by
  have HC : Hid (∀ j, j < 4 → w.cell? ⟨g, 2 + j, none⟩ = some (.int .u8 (hexF (nib c j) (u j)))) := hcell
  clear hcell
  go_enter Trym.func17, Trym.ntmps17
  go_wp2
  go_loop [3, 24] (fun r i => ∃ k : Nat, k ≤ 4 ∧ i = .int .i64 k ∧ r = .int .i32 (acc c k)) (fun _ i => 4 - (intOf i).toNat)
  case atStart => exact ⟨0, Nat.zero_le _, rfl, rfl⟩
  case round =>
    obtain ⟨k, hk, rfl, rfl⟩ := hrel
    by_cases hlt : k < 4
    · have hcx := HC.out k hlt
      have hn := nib_bd c k
      have ha := acc_bd c k h0 h1 hlt
      have HS : Hid (acc c k * 16 + nib c k = acc c (k + 1)) := acc_step c k h0 h1 hlt
      obtain ⟨d, hd⟩ : ∃ d, d = hexF (nib c k) (u k) := ⟨_, rfl⟩
      rw [← hd] at hcx
      unfold hexF at hd
      generalize nib c k = n at *
      generalize acc c k = a at *
      by_cases hn1 : n < 10
      · have hO := or4 a (d - 48) ha.1 ha.2 (by rw [if_pos hn1] at hd; omega) (by rw [if_pos hn1] at hd; omega)
        have HE : Hid (a * 16 + (d - 48) = acc c (k + 1)) := by rw [if_pos hn1] at hd; have := HS.out; show _ = _; omega
        have hd1 : 48 ≤ d ∧ d ≤ 57 := by rw [if_pos hn1] at hd; omega
        clear hd
        go_wp2
        go_round
        case rel => exact ⟨k + 1, by omega, by go_num, congrArg _ HE.out⟩
        case measure => simp [intOf]; omega
      · rw [if_neg hn1] at hd
        by_cases hu : u k = true
        · rw [if_pos hu] at hd
          have hO := or4 a (d - 55) ha.1 ha.2 (by omega) (by omega)
          have HE : Hid (a * 16 + (d - 55) = acc c (k + 1)) := by have := HS.out; show _ = _; omega
          have hd1 : 65 ≤ d ∧ d ≤ 70 := by omega
          clear hd hu
          go_wp2
          go_round
          case rel => exact ⟨k + 1, by omega, by go_num, congrArg _ HE.out⟩
          case measure => simp [intOf]; omega
        · rw [if_neg hu] at hd
          have hO := or4 a (d - 87) ha.1 ha.2 (by omega) (by omega)
          have HE : Hid (a * 16 + (d - 87) = acc c (k + 1)) := by have := HS.out; show _ = _; omega
          have hd1 : 97 ≤ d ∧ d ≤ 102 := by omega
          clear hd hu
          go_wp2
          go_round
          case rel => exact ⟨k + 1, by omega, by go_num, congrArg _ HE.out⟩
          case measure => simp [intOf]; omega
    · obtain rfl : k = 4 := by omega
      go_wp2
      go_ret
      exact ⟨rfl, rfl⟩

theorem zzu4_any (g L C : Nat) (c : Int) (u : Nat → Bool) (w : World) (h0 : 0 ≤ c) (h1 : c < 65536) (hL : 6 ≤ L) (hC : L ≤ C) (hC2 : C ≤ 4611686018427387904)
    (c0 : w.cell? ⟨g, 0, none⟩ = some (.int .u8 92)) (c1 : w.cell? ⟨g, 1, none⟩ = some (.int .u8 117))
    (hcell : ∀ j, j < 4 → w.cell? ⟨g, 2 + j, none⟩ = some (.int .u8 (hexF (nib c j) (u j)))) :
    Calls Trym.prog 8 #[.slice (some ⟨g, 0, none⟩) L C] w fun e w' => e = .returned (.int .i32 c) ∧ w = w' := by
  have HC : Hid (∀ j, j < 4 → w.cell? ⟨g, 2 + j, none⟩ = some (.int .u8 (hexF (nib c j) (u j)))) := hcell
  clear hcell
  go_enter Trym.func8, Trym.ntmps8
  go_wp2_with fail
  refine (u4_any g L C c u w h0 h1 hL hC hC2 c0 c1 HC.out).mono ?_
  rintro e w' ⟨rfl, rfl⟩
  go_wp2_with fail
  go_ret
  exact ⟨rfl, rfl⟩
end Go.Proofs.Qxb6603753aMods.Hex
