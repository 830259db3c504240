/- Contracts of the scans over a string: allDecimal, hasNonzero, allNines; of the bounds on the length. -/
import Derived.Test.Qxb6603753aModsProg
import Derived.WalkKit
import Derived.WalkSpells
import Derived.WalkLawsBesides
namespace Go.Proofs.Qxb6603753aMods.Scan
open Go.RowKit

/-- Every byte of s, as a number, is as P says. -/
def Each (P : Nat → Prop) (s : ByteArray) : Prop := ∀ k (hk : k < s.size), P s[k].toNat

theorem bytes16_yes (s : ByteArray) (w : World) (h : s.size ≤ 1048576) :
    Calls Trym.prog 16 #[.string s] w fun e w' => e = .returned (.bool true) ∧ w = w' := by
  go_enter Trym.func16, Trym.ntmps16
  go_wp2
  go_ret
  exact ⟨rfl, rfl⟩
theorem bytes16_no (s : ByteArray) (w : World) (h : 1048576 < s.size) (hm : s.size ≤ maxLen) :
    Calls Trym.prog 16 #[.string s] w fun e w' => e = .returned (.bool false) ∧ w = w' := by
  unfold maxLen at hm
  go_enter Trym.func16, Trym.ntmps16
  go_wp2
  go_ret
  exact ⟨rfl, rfl⟩
theorem bytes9_yes (s : ByteArray) (b : Bool) (w : World) (h : s.size ≤ 1048576) :
    Calls Trym.prog 9 #[.string s, .bool b] w fun e w' => e = .returned (.bool true) ∧ w = w' := by
  go_enter Trym.func9, Trym.ntmps9
  go_wp2
  go_ret
  exact ⟨rfl, rfl⟩
theorem bytes9_no (s : ByteArray) (b : Bool) (w : World) (h : 1048576 < s.size) (hm : s.size ≤ maxLen) :
    Calls Trym.prog 9 #[.string s, .bool b] w fun e w' => e = .returned (.bool false) ∧ w = w' := by
  unfold maxLen at hm
  go_enter Trym.func9, Trym.ntmps9
  go_wp2
  go_ret
  exact ⟨rfl, rfl⟩

set_option maxHeartbeats 400000 in
theorem allDecimal_yes (s : ByteArray) (w : World) (hs : s.size ≤ 1048576) (hp : 0 < s.size) (hd : Each (fun n => 48 ≤ n ∧ n ≤ 57) s) :
    Calls Trym.prog 10 #[.string s] w fun e w' => e = .returned (.bool true) ∧ w = w' := by
  have HD : Hid (Each (fun n => 48 ≤ n ∧ n ≤ 57) s) := hd
  clear hd
  have h0 : ((s.size : Int) == 0) = false := beq_eq_false_iff_ne.2 (by omega)
  go_enter Trym.func10, Trym.ntmps10
  go_wp2
  go_loop [3] (fun i => ∃ k : Nat, k ≤ s.size ∧ i = .int .i64 k) (fun i => s.size - (intOf i).toNat)
  case atStart => exact ⟨0, Nat.zero_le _, rfl⟩
  case round =>
    obtain ⟨k, hk, rfl⟩ := hrel
    by_cases hlt : k < s.size
    · have hb := HD.out k hlt
      have h1 : (48 : Int) ≤ (s[k].toNat : Int) := by omega
      have h2 : (s[k].toNat : Int) ≤ 57 := by omega
      clear hb
      go_wp2
      go_round
      case rel => exact ⟨k + 1, by omega, by go_num⟩
      case measure => simp [intOf]; omega
    · go_wp2
      go_ret
      exact ⟨rfl, rfl⟩

set_option maxHeartbeats 400000 in
theorem allDecimal_no (s : ByteArray) (w : World) (hs : s.size ≤ 1048576) (hd : ¬ (0 < s.size ∧ Each (fun n => 48 ≤ n ∧ n ≤ 57) s)) :
    Calls Trym.prog 10 #[.string s] w fun e w' => e = .returned (.bool false) ∧ w = w' := by
  by_cases hp : 0 < s.size
  · have HD : Hid (¬ Each (fun n => 48 ≤ n ∧ n ≤ 57) s) := fun h => hd ⟨hp, h⟩
    clear hd
    have h0 : ((s.size : Int) == 0) = false := beq_eq_false_iff_ne.2 (by omega)
    go_enter Trym.func10, Trym.ntmps10
    go_wp2
    go_loop [3] (fun i => ∃ k : Nat, k ≤ s.size ∧ i = .int .i64 k ∧ Hid (∀ j (hj : j < s.size), j < k → 48 ≤ s[j].toNat ∧ s[j].toNat ≤ 57)) (fun i => s.size - (intOf i).toNat)
    case atStart => exact ⟨0, Nat.zero_le _, rfl, fun j _ h => absurd h (Nat.not_lt_zero j)⟩
    case round =>
      obtain ⟨k, hk, rfl, HK⟩ := hrel
      by_cases hlt : k < s.size
      · by_cases c1 : (s[k].toNat : Int) < 48
        · go_wp2
          go_ret
          exact ⟨rfl, rfl⟩
        · by_cases c2 : (57 : Int) < (s[k].toNat : Int)
          · go_wp2
            go_ret
            exact ⟨rfl, rfl⟩
          · have HK2 : Hid (∀ j (hj : j < s.size), j < k + 1 → 48 ≤ s[j].toNat ∧ s[j].toNat ≤ 57) := by
              intro j hj hjk
              by_cases e : j = k
              · subst e; omega
              · exact HK.out j hj (by omega)
            go_wp2
            go_round
            case rel => exact ⟨k + 1, by omega, by go_num, HK2⟩
            case measure => simp [intOf]; omega
      · exact absurd (fun j hj => HK.out j hj (by omega)) HD.out
  · have h0 : ((s.size : Int) == 0) = true := beq_iff_eq.2 (by omega)
    clear hd
    go_enter Trym.func10, Trym.ntmps10
    go_wp2
    go_ret
    exact ⟨rfl, rfl⟩

set_option maxHeartbeats 400000 in
theorem hasNonzero_all (s : ByteArray) (w : World) (hs : s.size ≤ 1048576) (hd : Each (fun n => n = 48) s) :
    Calls Trym.prog 11 #[.string s] w fun e w' => e = .returned (.bool false) ∧ w = w' := by
  have HD : Hid (Each (fun n => n = 48) s) := hd
  clear hd
  go_enter Trym.func11, Trym.ntmps11
  go_wp2
  go_loop [3] (fun i => ∃ k : Nat, k ≤ s.size ∧ i = .int .i64 k) (fun i => s.size - (intOf i).toNat)
  case atStart => exact ⟨0, Nat.zero_le _, rfl⟩
  case round =>
    obtain ⟨k, hk, rfl⟩ := hrel
    by_cases hlt : k < s.size
    · have hb : ((s[k].toNat : Int) != 48) = false := by have := HD.out k hlt; simp only at this; rw [this]; rfl
      go_wp2
      go_round
      case rel => exact ⟨k + 1, by omega, by go_num⟩
      case measure => simp [intOf]; omega
    · go_wp2
      go_ret
      exact ⟨rfl, rfl⟩

set_option maxHeartbeats 400000 in
theorem hasNonzero_some (s : ByteArray) (w : World) (hs : s.size ≤ 1048576) (hd : ¬ Each (fun n => n = 48) s) :
    Calls Trym.prog 11 #[.string s] w fun e w' => e = .returned (.bool true) ∧ w = w' := by
  have HD : Hid (¬ Each (fun n => n = 48) s) := hd
  clear hd
  go_enter Trym.func11, Trym.ntmps11
  go_wp2
  go_loop [3] (fun i => ∃ k : Nat, k ≤ s.size ∧ i = .int .i64 k ∧ Hid (∀ j (hj : j < s.size), j < k → s[j].toNat = 48)) (fun i => s.size - (intOf i).toNat)
  case atStart => exact ⟨0, Nat.zero_le _, rfl, fun j _ h => absurd h (Nat.not_lt_zero j)⟩
  case round =>
    obtain ⟨k, hk, rfl, HK⟩ := hrel
    by_cases hlt : k < s.size
    · by_cases c1 : s[k].toNat = 48
      · have hb : ((s[k].toNat : Int) != 48) = false := by rw [c1]; rfl
        have HK2 : Hid (∀ j (hj : j < s.size), j < k + 1 → s[j].toNat = 48) := by
          intro j hj hjk
          by_cases e : j = k
          · subst e; exact c1
          · exact HK.out j hj (by omega)
        clear c1
        go_wp2
        go_round
        case rel => exact ⟨k + 1, by omega, by go_num, HK2⟩
        case measure => simp [intOf]; omega
      · have hb : ((s[k].toNat : Int) != 48) = true := bne_iff_ne.2 (by omega)
        clear c1
        go_wp2
        go_ret
        exact ⟨rfl, rfl⟩
    · exact absurd (fun j hj => HK.out j hj (by omega)) HD.out

set_option maxHeartbeats 400000 in
theorem allNines_all (s : ByteArray) (w : World) (hs : s.size ≤ 1048576) (hd : Each (fun n => n = 57) s) :
    Calls Trym.prog 13 #[.string s] w fun e w' => e = .returned (.bool true) ∧ w = w' := by
  have HD : Hid (Each (fun n => n = 57) s) := hd
  clear hd
  go_enter Trym.func13, Trym.ntmps13
  go_wp2
  go_loop [3] (fun i => ∃ k : Nat, k ≤ s.size ∧ i = .int .i64 k) (fun i => s.size - (intOf i).toNat)
  case atStart => exact ⟨0, Nat.zero_le _, rfl⟩
  case round =>
    obtain ⟨k, hk, rfl⟩ := hrel
    by_cases hlt : k < s.size
    · have hb : ((s[k].toNat : Int) != 57) = false := by have := HD.out k hlt; simp only at this; rw [this]; rfl
      go_wp2
      go_round
      case rel => exact ⟨k + 1, by omega, by go_num⟩
      case measure => simp [intOf]; omega
    · go_wp2
      go_ret
      exact ⟨rfl, rfl⟩

set_option maxHeartbeats 400000 in
theorem allNines_some (s : ByteArray) (w : World) (hs : s.size ≤ 1048576) (hd : ¬ Each (fun n => n = 57) s) :
    Calls Trym.prog 13 #[.string s] w fun e w' => e = .returned (.bool false) ∧ w = w' := by
  have HD : Hid (¬ Each (fun n => n = 57) s) := hd
  clear hd
  go_enter Trym.func13, Trym.ntmps13
  go_wp2
  go_loop [3] (fun i => ∃ k : Nat, k ≤ s.size ∧ i = .int .i64 k ∧ Hid (∀ j (hj : j < s.size), j < k → s[j].toNat = 57)) (fun i => s.size - (intOf i).toNat)
  case atStart => exact ⟨0, Nat.zero_le _, rfl, fun j _ h => absurd h (Nat.not_lt_zero j)⟩
  case round =>
    obtain ⟨k, hk, rfl, HK⟩ := hrel
    by_cases hlt : k < s.size
    · by_cases c1 : s[k].toNat = 57
      · have hb : ((s[k].toNat : Int) != 57) = false := by rw [c1]; rfl
        have HK2 : Hid (∀ j (hj : j < s.size), j < k + 1 → s[j].toNat = 57) := by
          intro j hj hjk
          by_cases e : j = k
          · subst e; exact c1
          · exact HK.out j hj (by omega)
        clear c1
        go_wp2
        go_round
        case rel => exact ⟨k + 1, by omega, by go_num, HK2⟩
        case measure => simp [intOf]; omega
      · have hb : ((s[k].toNat : Int) != 57) = true := bne_iff_ne.2 (by omega)
        clear c1
        go_wp2
        go_ret
        exact ⟨rfl, rfl⟩
    · exact absurd (fun j hj => HK.out j hj (by omega)) HD.out
end Go.Proofs.Qxb6603753aMods.Scan
