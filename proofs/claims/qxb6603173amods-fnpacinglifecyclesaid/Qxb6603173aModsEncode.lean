/- The word that encodes a state of the small machine; its steps; the contracts of zzEncode and of the length's bound. -/
import Derived.Test.Qxb6603173aModsCalls
import Derived.WalkKit
import Derived.WalkSpells
namespace Go.Proofs.Qxb6603173aMods.Encode
open Go.RowKit
open Go.Proofs.Qxb6603173aMods.Plain Go.Proofs.Qxb6603173aMods.Calls

def encF (p h j : Bool) (l : Int) : Int :=
  match p with
  | false => (match h with | false => 0 | true => 536870912)
  | true => (match j with | false => 2147483648 + l | true => 2147483648 + l + 1073741824)

theorem encF_bd (p h j : Bool) (l : Int) (h0 : 0 ≤ l) (h1 : l ≤ 16777215) : 0 ≤ encF p h j l ∧ encF p h j l < 4294967296 := by
  cases p <;> cases h <;> cases j <;> simp only [encF] <;> omega

theorem ahead_on (b h j : Bool) (l : Int) (h0 : 0 ≤ l) : aheadF (encF true h j l) b = encF true h j l := by
  have : 2147483648 ≤ encF true h j l := by cases j <;> simp only [encF] <;> omega
  unfold aheadF; rw [if_pos this]
theorem ahead_no (h j : Bool) (l : Int) : aheadF (encF false h j l) false = encF false false j l := by
  cases h <;> simp [encF, aheadF]
theorem ahead_first (j : Bool) (l : Int) : aheadF (encF false false j l) true = encF false true j l := by
  simp [encF, aheadF]
theorem ahead_second (j : Bool) (l : Int) : aheadF (encF false true j l) true = encF true false false 1048576 := by
  simp [encF, aheadF]
theorem frame_off (h j : Bool) (l : Int) : frameF (encF false h j l) = encF false h j l := by
  cases h <;> simp [encF, frameF]
theorem frame_last (h j : Bool) (l : Int) (h0 : 1 ≤ l) (h1 : l ≤ 1) : frameF (encF true h j l) = encF false false false (l - 1) := by
  obtain rfl : l = 1 := by omega
  cases j <;> simp [encF, frameF]
theorem frame_on (h j : Bool) (l : Int) (h0 : 1 < l) (h1 : l ≤ 16777215) : frameF (encF true h j l) = encF true h (!j) (l - 1) := by
  cases j
  · show frameF (2147483648 + l) = 2147483648 + (l - 1) + 1073741824
    unfold frameF flipF
    rw [if_neg (by omega), if_neg (by omega), if_pos (by omega)]; omega
  · show frameF (2147483648 + l + 1073741824) = 2147483648 + (l - 1)
    unfold frameF flipF
    rw [if_neg (by omega), if_neg (by omega), if_neg (by omega)]; omega

theorem or_on (l : Int) (h0 : 0 ≤ l) (h1 : l ≤ 16777215) : bits .or .u32 2147483648 l = 2147483648 + l := by
  go_bits2
theorem or_join (l : Int) (h0 : 0 ≤ l) (h1 : l ≤ 16777215) : bits .or .u32 (2147483648 + l) 1073741824 = 2147483648 + l + 1073741824 := by
  obtain ⟨n, rfl⟩ := Int.eq_ofNat_of_zero_le h0
  rw [u32_or _ _ (by omega) (by omega) (by omega) (by omega)]
  have e1 : (2147483648 + (n : Int)).toNat = 2147483648 ||| n := by
    rw [nat_join31 2147483648 n (by decide) (by omega)]; omega
  have e2 : (1073741824 : Int).toNat = 1073741824 := rfl
  rw [e1, e2, Nat.or_assoc, Nat.or_comm n, ← Nat.or_assoc]
  have e3 : (2147483648 ||| 1073741824 : Nat) = 3221225472 := by decide
  rw [e3, nat_join30 3221225472 n (by decide) (by omega)]
  omega

theorem zzEncode_any (p h j : Bool) (l : Int) (w : World) (h0 : 0 ≤ l) (h1 : l ≤ 16777215) :
    Calls Trym.prog 11 #[.bool p, .bool h, .bool j, .int .u32 l] w fun e w' => e = .returned (.int .u32 (encF p h j l)) ∧ w = w' := by
  cases p
  · cases h
    · go_enter Trym.func11, Trym.ntmps11
      go_wp2
      go_ret
      exact ⟨rfl, rfl⟩
    · go_enter Trym.func11, Trym.ntmps11
      go_wp2
      go_ret
      exact ⟨rfl, rfl⟩
  · have ho := or_on l h0 h1
    cases j
    · have HE : Hid (2147483648 + l = encF true h false l) := by exact rfl
      go_enter Trym.func11, Trym.ntmps11
      go_wp2
      go_ret
      exact ⟨ret_int HE.out, rfl⟩
    · have hj := or_join l h0 h1
      have HE : Hid (2147483648 + l + 1073741824 = encF true h true l) := by exact rfl
      go_enter Trym.func11, Trym.ntmps11
      go_wp2
      go_ret
      exact ⟨ret_int HE.out, rfl⟩

theorem zzAhead_any' (p : Int) (b : Bool) (w : World) (h0 : 0 ≤ p) (h1 : p < 4294967296) :
    Calls Trym.prog 8 #[.int .u32 p, .bool b] w fun e w' => e = .returned (.int .u32 (aheadF p b)) ∧ w = w' :=
  (zzAhead_any p b w h0 h1).mono fun _ _ h => ⟨h.1, h.2.symm⟩
theorem zzFrame_any' (p : Int) (w : World) (h0 : 0 ≤ p) (h1 : p < 4294967296) :
    Calls Trym.prog 9 #[.int .u32 p] w fun e w' => e = .returned (.int .u32 (frameF p)) ∧ w = w' :=
  (zzFrame_any p w h0 h1).mono fun _ _ h => ⟨h.1, h.2.symm⟩

theorem bytes5_any (p h j : Bool) (l : Int) (a : Option Addr) (len cap : Nat) (w : World) (hlen : len ≤ 1048576) :
    Calls Trym.prog 10 #[.bool p, .bool h, .bool j, .int .u32 l, .slice a len cap] w fun e w' => e = .returned (.bool true) ∧ w = w' := by
  go_enter Trym.func10, Trym.ntmps10
  go_wp2
  go_ret
  exact ⟨rfl, rfl⟩
theorem bytes5_no (p h j : Bool) (l : Int) (a : Option Addr) (len cap : Nat) (w : World) (hlen : 1048576 < len) :
    Calls Trym.prog 10 #[.bool p, .bool h, .bool j, .int .u32 l, .slice a len cap] w fun e w' => e = .returned (.bool false) ∧ w = w' := by
  go_enter Trym.func10, Trym.ntmps10
  go_wp2
  go_ret
  exact ⟨rfl, rfl⟩

theorem and1 (e : Int) (h0 : 0 ≤ e) (h1 : e ≤ 255) : bits .and .u8 e 1 = e % 2 := by
  go_bits2
theorem and2 (e : Int) (h0 : 0 ≤ e) (h1 : e ≤ 255) : bits .and .u8 e 2 = e / 2 % 2 * 2 := by
  go_bits2
end Go.Proofs.Qxb6603173aMods.Encode
