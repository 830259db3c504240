/- Contracts of the pacing word's four small functions. -/
import Derived.Test.Qxb6603173aModsProg
import Derived.Test.Qxb6603173aModsPlain
import Derived.WalkKit
import Derived.WalkSpells
namespace Go.Proofs.Qxb6603173aMods.Calls
open Go.RowKit
open Go.Proofs.Qxb6603173aMods.Plain

theorem ret_bool {a b : Bool} (h : a = b) : Ending.returned (.bool a) = .returned (.bool b) := by rw [h]
theorem ret_int {k : IntKind} {a b : Int} (h : a = b) : Ending.returned (.int k a) = .returned (.int k b) := by rw [h]

theorem on_eq (p : Int) (h0 : 0 ≤ p) (h1 : p < 4294967296) : (p / 2147483648 * 2147483648 != 0) = decide (2147483648 ≤ p) := by
  rw [Bool.eq_iff_iff]; simp; omega

theorem on_any (p : Int) (w : World) (h0 : 0 ≤ p) (h1 : p < 4294967296) :
    Calls Trym.prog 18 #[.int .u32 p] w fun e w' => e = .returned (.bool (decide (2147483648 ≤ p))) ∧ w' = w := by
  have ha := and_on p h0 h1
  go_enter Trym.func18, Trym.ntmps18
  go_wp2
  go_ret
  exact ⟨ret_bool (on_eq p h0 h1), rfl⟩

theorem afterAhead_any (p : Int) (b : Bool) (w : World) (h0 : 0 ≤ p) (h1 : p < 4294967296) :
    Calls Trym.prog 15 #[.int .u32 p, .bool b] w fun e w' => e = .returned (.int .u32 (aheadF p b)) ∧ w' = w := by
  by_cases c : 2147483648 ≤ p
  · have HF : Hid (p = aheadF p b) := by unfold aheadF; rw [if_pos c]; exact rfl
    go_enter Trym.func15, Trym.ntmps15
    go_wp2_with (go_at_call 18; refine (on_any _ _ h0 h1).mono ?_; rintro e w' ⟨rfl, rfl⟩)
    go_ret
    exact ⟨ret_int HF.out, rfl⟩
  · cases b
    · have HF : Hid (0 = aheadF p false) := by unfold aheadF; rw [if_neg c, if_neg (by decide)]; exact rfl
      have hd : decide (2147483648 ≤ p) = false := by simpa using c
      go_enter Trym.func15, Trym.ntmps15
      go_wp2_with (go_at_call 18; refine (on_any _ _ h0 h1).mono ?_; rintro e w' ⟨rfl, rfl⟩)
      go_ret
      exact ⟨ret_int HF.out, rfl⟩
    · have hd : decide (2147483648 ≤ p) = false := by simpa using c
      have ha := and_hint p h0 h1
      by_cases g : p / 536870912 % 2 = 0
      · have HF : Hid (536870912 = aheadF p true) := by unfold aheadF; rw [if_neg c, if_pos rfl, if_pos g]; exact rfl
        have hb : (p / 536870912 % 2 * 536870912 == 0) = true := by simp; omega
        clear g
        go_enter Trym.func15, Trym.ntmps15
        go_wp2_with (go_at_call 18; refine (on_any _ _ h0 h1).mono ?_; rintro e w' ⟨rfl, rfl⟩)
        go_ret
        exact ⟨ret_int HF.out, rfl⟩
      · have HF : Hid (2148532224 = aheadF p true) := by unfold aheadF; rw [if_neg c, if_pos rfl, if_neg g]; exact rfl
        have hb : (p / 536870912 % 2 * 536870912 == 0) = false := by simp; omega
        clear g
        go_enter Trym.func15, Trym.ntmps15
        go_wp2_with (go_at_call 18; refine (on_any _ _ h0 h1).mono ?_; rintro e w' ⟨rfl, rfl⟩)
        go_ret
        exact ⟨ret_int HF.out, rfl⟩

theorem afterFrame_any (p : Int) (w : World) (h0 : 0 ≤ p) (h1 : p < 4294967296) :
    Calls Trym.prog 16 #[.int .u32 p] w fun e w' => e = .returned (.int .u32 (frameF p)) ∧ w' = w := by
  by_cases c : p < 2147483648
  · have HF : Hid (p = frameF p) := by unfold frameF; rw [if_pos c]; exact rfl
    have hd : decide (2147483648 ≤ p) = false := by simpa using c
    go_enter Trym.func16, Trym.ntmps16
    go_wp2_with (go_at_call 18; refine (on_any _ _ h0 h1).mono ?_; rintro e w' ⟨rfl, rfl⟩)
    go_ret
    exact ⟨ret_int HF.out, rfl⟩
  · have hd : decide (2147483648 ≤ p) = true := by simp; omega
    have ha := and_frames p h0 h1
    have hx := xor_join p h0 h1
    have hf := flipF_on p (by omega) h1
    by_cases g : p % 16777216 = 1
    · have HF : Hid (0 = frameF p) := by unfold frameF; rw [if_neg c, if_pos g]; exact rfl
      have hb : (p % 16777216 == 1) = true := by simp; omega
      clear g c
      go_enter Trym.func16, Trym.ntmps16
      go_wp2_with (go_at_call 18; refine (on_any _ _ h0 h1).mono ?_; rintro e w' ⟨rfl, rfl⟩)
      go_ret
      exact ⟨ret_int HF.out, rfl⟩
    · have HF : Hid (flipF p - 1 = frameF p) := by unfold frameF; rw [if_neg c, if_neg g]; exact rfl
      have hb : (p % 16777216 == 1) = false := by simp; omega
      clear g c
      go_enter Trym.func16, Trym.ntmps16
      go_wp2_with (go_at_call 18; refine (on_any _ _ h0 h1).mono ?_; rintro e w' ⟨rfl, rfl⟩)
      go_ret
      exact ⟨ret_int HF.out, rfl⟩

theorem zzAhead_any (p : Int) (b : Bool) (w : World) (h0 : 0 ≤ p) (h1 : p < 4294967296) :
    Calls Trym.prog 8 #[.int .u32 p, .bool b] w fun e w' => e = .returned (.int .u32 (aheadF p b)) ∧ w' = w := by
  go_enter Trym.func8, Trym.ntmps8
  go_wp2_with (go_at_call 15; refine (afterAhead_any _ _ _ h0 h1).mono ?_; rintro e w' ⟨rfl, rfl⟩)
  go_ret
  exact ⟨rfl, rfl⟩

theorem zzFrame_any (p : Int) (w : World) (h0 : 0 ≤ p) (h1 : p < 4294967296) :
    Calls Trym.prog 9 #[.int .u32 p] w fun e w' => e = .returned (.int .u32 (frameF p)) ∧ w' = w := by
  go_enter Trym.func9, Trym.ntmps9
  go_wp2_with (go_at_call 16; refine (afterFrame_any _ _ h0 h1).mono ?_; rintro e w' ⟨rfl, rfl⟩)
  go_ret
  exact ⟨rfl, rfl⟩
end Go.Proofs.Qxb6603173aMods.Calls
