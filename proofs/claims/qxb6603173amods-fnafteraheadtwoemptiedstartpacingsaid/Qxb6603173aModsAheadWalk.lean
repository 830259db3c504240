/- The walk of FnAfterAheadTwoEmptiedStartPacing. -/
import Derived.Test.Qxb6603173aModsCalls
import Derived.WalkKit
import Derived.WalkSpells
namespace Go.Proofs.Qxb6603173aMods.AheadWalk
open Go.RowKit
open Go.Proofs.Qxb6603173aMods.Plain Go.Proofs.Qxb6603173aMods.Calls

theorem ahead_on (p : Int) (b : Bool) (w : World) (h0 : 2147483648 ≤ p) (h1 : p < 4294967296) :
    Calls Trym.prog 8 #[.int .u32 p, .bool b] w fun e w' => e = .returned (.int .u32 p) ∧ w' = w := by
  refine (zzAhead_any p b w (by omega) h1).mono ?_
  rintro e w' ⟨rfl, rfl⟩
  exact ⟨ret_int (by unfold aheadF; rw [if_pos h0]), rfl⟩
theorem ahead_no (p : Int) (w : World) (h0 : 0 ≤ p) (h1 : p < 2147483648) :
    Calls Trym.prog 8 #[.int .u32 p, .bool false] w fun e w' => e = .returned (.int .u32 0) ∧ w' = w := by
  refine (zzAhead_any p false w h0 (by omega)).mono ?_
  rintro e w' ⟨rfl, rfl⟩
  exact ⟨ret_int (by unfold aheadF; rw [if_neg (by omega), if_neg (by decide)]), rfl⟩
theorem ahead_first (p : Int) (w : World) (h0 : 0 ≤ p) (h1 : p < 2147483648) (h2 : p / 536870912 % 2 = 0) :
    Calls Trym.prog 8 #[.int .u32 p, .bool true] w fun e w' => e = .returned (.int .u32 536870912) ∧ w' = w := by
  refine (zzAhead_any p true w h0 (by omega)).mono ?_
  rintro e w' ⟨rfl, rfl⟩
  exact ⟨ret_int (by unfold aheadF; rw [if_neg (by omega), if_pos rfl, if_pos h2]), rfl⟩
theorem ahead_second (p : Int) (w : World) (h0 : 0 ≤ p) (h1 : p < 2147483648) (h2 : ¬ p / 536870912 % 2 = 0) :
    Calls Trym.prog 8 #[.int .u32 p, .bool true] w fun e w' => e = .returned (.int .u32 2148532224) ∧ w' = w := by
  refine (zzAhead_any p true w h0 (by omega)).mono ?_
  rintro e w' ⟨rfl, rfl⟩
  exact ⟨ret_int (by unfold aheadF; rw [if_neg (by omega), if_pos rfl, if_neg h2]), rfl⟩

set_option maxHeartbeats 400000 in
theorem walk (p : Int) (h0 : 0 ≤ p) (h1 : p < 4294967296) (w : World) :
    Calls Trym.prog 3 #[.int .u32 p] w fun e w' => e = .returned (.bool true) ∧ Grown w w' := by
  have ha := and_on p h0 h1
  by_cases c : 2147483648 ≤ p
  · have hb : (p / 2147483648 * 2147483648 != 0) = true := by simp; omega
    have hq : (p == p) = true := by simp
    go_enter Trym.func3, Trym.ntmps3
    go_wp2_with fail
    refine (ahead_on p true _ c h1).mono ?_
    rintro e w' ⟨rfl, rfl⟩
    go_wp2_with fail
    refine (ahead_on p false _ c h1).mono ?_
    rintro e w' ⟨rfl, rfl⟩
    go_wp2_with fail
    go_ret
    exact ⟨rfl, Grown.refl _⟩
  · have hb : (p / 2147483648 * 2147483648 != 0) = false := by simp; omega
    have hh := and_hint p h0 h1
    have c1 : p < 2147483648 := by omega
    by_cases g : p / 536870912 % 2 = 0
    · have hg : (p / 536870912 % 2 * 536870912 != 0) = false := by simp; omega
      have G : Hid (p / 536870912 % 2 = 0) := g
      clear g
      have e1 : bits .and .u32 536870912 2147483648 = 0 := by decide
      have e2 : bits .and .u32 536870912 536870912 = 536870912 := by decide
      go_enter Trym.func3, Trym.ntmps3
      go_wp2_with fail
      refine (ahead_no p _ h0 c1).mono ?_
      rintro e w' ⟨rfl, rfl⟩
      go_wp2_with fail
      refine (ahead_first p _ h0 c1 G.out).mono ?_
      rintro e w' ⟨rfl, rfl⟩
      go_wp2_with fail
      refine (ahead_first 0 _ (by decide) (by decide) (by decide)).mono ?_
      rintro e w' ⟨rfl, rfl⟩
      go_wp2_with fail
      refine (ahead_second 536870912 _ (by decide) (by decide) (by decide)).mono ?_
      rintro e w' ⟨rfl, rfl⟩
      go_wp2_with fail
      refine (ahead_no 536870912 _ (by decide) (by decide)).mono ?_
      rintro e w' ⟨rfl, rfl⟩
      go_wp2_with fail
      refine (ahead_first 0 _ (by decide) (by decide) (by decide)).mono ?_
      rintro e w' ⟨rfl, rfl⟩
      go_wp2_with fail
      go_ret
      exact ⟨rfl, Grown.refl _⟩
    · have hg : (p / 536870912 % 2 * 536870912 != 0) = true := by simp; omega
      have G : Hid (¬ p / 536870912 % 2 = 0) := g
      clear g
      go_enter Trym.func3, Trym.ntmps3
      go_wp2_with fail
      refine (ahead_no p _ h0 c1).mono ?_
      rintro e w' ⟨rfl, rfl⟩
      go_wp2_with fail
      refine (ahead_second p _ h0 c1 G.out).mono ?_
      rintro e w' ⟨rfl, rfl⟩
      go_wp2_with fail
      go_ret
      exact ⟨rfl, Grown.refl _⟩
end Go.Proofs.Qxb6603173aMods.AheadWalk
