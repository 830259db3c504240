/- The walk of FnAfterFrameCountsDown. -/
import Derived.Test.Qxb6603173aModsCalls
import Derived.WalkKit
import Derived.WalkSpells
namespace Go.Proofs.Qxb6603173aMods.FrameWalk
open Go.RowKit
open Go.Proofs.Qxb6603173aMods.Plain Go.Proofs.Qxb6603173aMods.Calls

theorem flipF_sub (p n : Int) (h0 : 2147483648 ≤ p) (h1 : p < 4294967296) (hn : 0 ≤ n) (hf : n < p % 16777216) : flipF (p - n) = flipF p - n := by
  unfold flipF; split <;> split <;> omega

set_option maxHeartbeats 400000 in
theorem walk_run (p : Int) (n : Nat) (h0 : 0 ≤ p) (h1 : p < 4294967296) (hn : n ≤ 65536) (hf : 2147483648 ≤ p → p % 16777216 ≠ 0) (w : World) :
    Calls Trym.prog 4 #[.int .u32 p, .int .i64 n] w fun e w' => e = .returned (.bool true) ∧ Grown w w' := by
  have ha := and_on p h0 h1
  have hfr := and_frames p h0 h1
  have HF : Hid (2147483648 ≤ p → p % 16777216 ≠ 0) := hf
  have HL : ∀ k : Nat, 0 ≤ aft p k ∧ aft p k < 4294967296 := fun k => aft_bd p k h0 h1 (by omega)
  have HZ : Hid (p = aft p ((0 : Nat) : Int)) := (aft_zero p hf).symm
  have HS : Hid (∀ k : Nat, frameF (aft p k) = aft p ((k + 1 : Nat) : Int)) := fun k => aft_step p k h0 h1 hf (by omega)
  clear hf
  by_cases c : 2147483648 ≤ p
  · have hb : (p / 2147483648 * 2147483648 != 0) = true := by simp; omega
    have hb2 : (p / 2147483648 * 2147483648 == 0) = false := by simp; omega
    have hz : (p % 16777216 == 0) = false := by have := HF.out c; simp; omega
    go_enter Trym.func4, Trym.ntmps4
    go_wp2_with fail
    go_loop [6, 7] (fun s i => ∃ k : Nat, k ≤ n ∧ i = .int .i64 k ∧ s = .int .u32 (aft p k)) (fun _ i => n - (intOf i).toNat)
    case atStart => exact ⟨0, Nat.zero_le _, rfl, congrArg _ HZ.out⟩
    case round =>
      obtain ⟨k, hk, rfl, rfl⟩ := hrel
      by_cases hlt : k < n
      · have hl := HL k
        have HK : Hid (frameF (aft p k) = aft p ((k + 1 : Nat) : Int)) := HS.out k
        go_wp2_with fail
        refine (zzFrame_any _ _ hl.1 hl.2).mono ?_
        rintro e w' ⟨rfl, rfl⟩
        go_wp2_with fail
        go_round
        case rel => exact ⟨k + 1, by omega, by go_num, congrArg _ HK.out⟩
        case measure => simp [intOf]; omega
      · obtain rfl : k = n := by omega
        clear HL
        by_cases hd : p % 16777216 ≤ k
        · have hv := aft_done p k c hd
          go_wp2_with fail
          go_ret
          exact ⟨rfl, Grown.refl _⟩
        · have hv := aft_mid p k c (by omega)
          have hA := andNot_frames p h0 h1
          have hO : bits .or .u32 (p - p % 16777216) (p % 16777216 - (k : Int)) = p - (k : Int) := by
            rw [or_low p _ h0 h1 (by omega) (by omega)]; omega
          have h1a := and_one (k : Int) (by omega) (by omega)
          have hX : bits .xor .u32 (p - (k : Int)) 1073741824 = flipF p - (k : Int) := by
            rw [xor_join _ (by omega) (by omega)]; exact flipF_sub p k c h1 (by omega) (by omega)
          by_cases ho : (k : Int) % 2 = 1
          · rw [if_pos ho] at hv
            have hb3 : ((k : Int) % 2 == 1) = true := by simp; omega
            have hq : (flipF p - (k : Int) == flipF p - (k : Int)) = true := by simp
            clear ho
            go_wp2_with fail
            go_ret
            exact ⟨rfl, Grown.refl _⟩
          · rw [if_neg ho] at hv
            have hb3 : ((k : Int) % 2 == 1) = false := by simp; omega
            have hq : (p - (k : Int) == p - (k : Int)) = true := by simp
            clear ho
            go_wp2_with fail
            go_ret
            exact ⟨rfl, Grown.refl _⟩
  · have hb : (p / 2147483648 * 2147483648 != 0) = false := by simp; omega
    have hb2 : (p / 2147483648 * 2147483648 == 0) = true := by simp; omega
    have hq : (p == p) = true := by simp
    go_enter Trym.func4, Trym.ntmps4
    go_wp2_with fail
    go_loop [6, 7] (fun s i => ∃ k : Nat, k ≤ n ∧ i = .int .i64 k ∧ s = .int .u32 (aft p k)) (fun _ i => n - (intOf i).toNat)
    case atStart => exact ⟨0, Nat.zero_le _, rfl, congrArg _ HZ.out⟩
    case round =>
      obtain ⟨k, hk, rfl, rfl⟩ := hrel
      by_cases hlt : k < n
      · have hl := HL k
        have HK : Hid (frameF (aft p k) = aft p ((k + 1 : Nat) : Int)) := HS.out k
        go_wp2_with fail
        refine (zzFrame_any _ _ hl.1 hl.2).mono ?_
        rintro e w' ⟨rfl, rfl⟩
        go_wp2_with fail
        go_round
        case rel => exact ⟨k + 1, by omega, by go_num, congrArg _ HK.out⟩
        case measure => simp [intOf]; omega
      · obtain rfl : k = n := by omega
        clear HL
        have hv := aft_off p k (by omega)
        go_wp2_with fail
        go_ret
        exact ⟨rfl, Grown.refl _⟩

set_option maxHeartbeats 400000 in
theorem walk (p : Int) (s : Int) (h0 : 0 ≤ p) (h1 : p < 4294967296) (w : World) :
    Calls Trym.prog 4 #[.int .u32 p, .int .i64 s] w fun e w' => e = .returned (.bool true) ∧ Grown w w' := by
  by_cases c1 : s < 0
  · go_enter Trym.func4, Trym.ntmps4
    go_wp2_with fail
    go_ret
    exact ⟨rfl, Grown.refl _⟩
  · by_cases c2 : 65536 < s
    · go_enter Trym.func4, Trym.ntmps4
      go_wp2_with fail
      go_ret
      exact ⟨rfl, Grown.refl _⟩
    · by_cases c3 : 2147483648 ≤ p ∧ p % 16777216 = 0
      · obtain ⟨c3, c4⟩ := c3
        have ha := and_on p h0 h1
        have hfr := and_frames p h0 h1
        have hb : (p / 2147483648 * 2147483648 != 0) = true := by simp; omega
        have hz : (p % 16777216 == 0) = true := by simp; omega
        clear c4
        go_enter Trym.func4, Trym.ntmps4
        go_wp2_with fail
        go_ret
        exact ⟨rfl, Grown.refl _⟩
      · obtain ⟨n, rfl⟩ := Int.eq_ofNat_of_zero_le (show 0 ≤ s by omega)
        exact walk_run p n h0 h1 (by omega) (fun h e => c3 ⟨h, e⟩) w
end Go.Proofs.Qxb6603173aMods.FrameWalk
