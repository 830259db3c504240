/- Plain arithmetic of the pacing word: no Go in sight but the bit operations' own name 'bits'. -/
import Derived.Laws.BitsAll
namespace Go.Proofs.Qxb6603173aMods.Plain

theorem and_on (p : Int) (h0 : 0 ≤ p) (h1 : p < 4294967296) : bits .and .u32 p 2147483648 = p / 2147483648 * 2147483648 := by
  go_bits2
theorem and_hint (p : Int) (h0 : 0 ≤ p) (h1 : p < 4294967296) : bits .and .u32 p 536870912 = p / 536870912 % 2 * 536870912 := by
  go_bits2
theorem and_frames (p : Int) (h0 : 0 ≤ p) (h1 : p < 4294967296) : bits .and .u32 p 16777215 = p % 16777216 := by
  go_bits2
theorem and_one (p : Int) (h0 : 0 ≤ p) (h1 : p < 4294967296) : bits .and .u32 p 1 = p % 2 := by
  go_bits2

theorem andNot_frames (p : Int) (h0 : 0 ≤ p) (h1 : p < 4294967296) : bits .andNot .u32 p 16777215 = p - p % 16777216 := by
  go_bits2

def flipF (p : Int) : Int := if p / 1073741824 % 2 = 0 then p + 1073741824 else p - 1073741824

theorem nat_flip (x : Nat) (h : x < 4294967296) : x ^^^ 1073741824 = if x / 1073741824 % 2 = 0 then x + 1073741824 else x - 1073741824 := by
  have hd : (x ^^^ 1073741824) / 2 ^ 30 = (x / 2 ^ 30) ^^^ (1073741824 / 2 ^ 30) := Nat.xor_div_two_pow
  have hm : (x ^^^ 1073741824) % 2 ^ 30 = (x % 2 ^ 30) ^^^ (1073741824 % 2 ^ 30) := Nat.xor_mod_two_pow
  have hq : x / 2 ^ 30 < 4 := by omega
  have e1 : (1073741824 : Nat) / 2 ^ 30 = 1 := by decide
  have e2 : (1073741824 : Nat) % 2 ^ 30 = 0 := by decide
  rw [e1] at hd
  rw [e2, Nat.xor_zero] at hm
  have key : ∀ q : Nat, q < 4 → q ^^^ 1 = if q % 2 = 0 then q + 1 else q - 1 := by decide
  have k := key _ hq
  rw [k] at hd
  generalize x ^^^ 1073741824 = y at *
  split at hd <;> split <;> omega

theorem xor_join (p : Int) (h0 : 0 ≤ p) (h1 : p < 4294967296) : bits .xor .u32 p 1073741824 = flipF p := by
  rw [u32_xor p 1073741824 h0 h1 (by omega) (by omega)]
  have : (1073741824 : Int).toNat = 1073741824 := rfl
  rw [this, nat_flip _ (by omega)]
  unfold flipF
  split <;> split <;> omega

def aheadF (p : Int) (b : Bool) : Int :=
  if 2147483648 ≤ p then p else if b = true then (if p / 536870912 % 2 = 0 then 536870912 else 2148532224) else 0
def frameF (p : Int) : Int := if p < 2147483648 then p else if p % 16777216 = 1 then 0 else flipF p - 1

theorem aheadF_bd (p : Int) (b : Bool) (h0 : 0 ≤ p) (h1 : p < 4294967296) : 0 ≤ aheadF p b ∧ aheadF p b < 4294967296 := by
  unfold aheadF; split
  · omega
  · split
    · split <;> omega
    · omega
theorem flipF_bd (p : Int) (h0 : 0 ≤ p) (h1 : p < 4294967296) : 0 ≤ flipF p ∧ flipF p < 4294967296 := by
  unfold flipF; split <;> omega
theorem flipF_on (p : Int) (h0 : 2147483648 ≤ p) (h1 : p < 4294967296) : 2147483648 ≤ flipF p ∧ flipF p < 4294967296 := by
  unfold flipF; split <;> omega
theorem frameF_bd (p : Int) (h0 : 0 ≤ p) (h1 : p < 4294967296) : 0 ≤ frameF p ∧ frameF p < 4294967296 := by
  unfold frameF; split
  · omega
  · have := flipF_on p (by omega) h1
    split <;> omega

/-- The word after k frames. -/
def aft (p k : Int) : Int := if p < 2147483648 then p else if p % 16777216 ≤ k then 0 else (if k % 2 = 1 then flipF p else p) - k

theorem aft_bd (p k : Int) (h0 : 0 ≤ p) (h1 : p < 4294967296) (hk : 0 ≤ k) : 0 ≤ aft p k ∧ aft p k < 4294967296 := by
  unfold aft flipF
  split
  · omega
  · split
    · omega
    · split
      · split <;> omega
      · omega
theorem aft_zero (p : Int) (hf : 2147483648 ≤ p → p % 16777216 ≠ 0) : aft p 0 = p := by
  unfold aft
  split
  · rfl
  · rw [if_neg (by omega), if_neg (by omega)]; omega
theorem aft_step (p k : Int) (h0 : 0 ≤ p) (h1 : p < 4294967296) (hf : 2147483648 ≤ p → p % 16777216 ≠ 0) (hk : 0 ≤ k) : frameF (aft p k) = aft p (k + 1) := by
  unfold aft
  by_cases c : p < 2147483648
  · rw [if_pos c, if_pos c]; unfold frameF; rw [if_pos c]
  · rw [if_neg c, if_neg c]
    have hf' := hf (by omega)
    by_cases d : p % 16777216 ≤ k
    · rw [if_pos d, if_pos (by omega)]; unfold frameF; rw [if_pos (by omega)]
    · rw [if_neg d]
      by_cases e : k % 2 = 1
      · rw [if_pos e]
        have := flipF_on p (by omega) h1
        have hmod : flipF p % 16777216 = p % 16777216 := by unfold flipF; split <;> omega
        have hback : flipF (flipF p - k) = p - k := by
          unfold flipF; split <;> split <;> omega
        have hon : ¬ flipF p - k < 2147483648 := by unfold flipF; split <;> omega
        unfold frameF
        rw [if_neg hon, hback]
        by_cases g : p % 16777216 = k + 1
        · rw [if_pos (by omega), if_pos (by omega)]
        · rw [if_neg (by omega), if_neg (by omega), if_neg (by omega)]; omega
      · rw [if_neg e]
        have hfw : flipF (p - k) = flipF p - k := by
          unfold flipF; split <;> split <;> omega
        unfold frameF
        rw [if_neg (by omega), hfw]
        by_cases g : p % 16777216 = k + 1
        · rw [if_pos (by omega), if_pos (by omega)]
        · rw [if_neg (by omega), if_neg (by omega), if_pos (by omega)]; omega
theorem aft_off (p k : Int) (c : p < 2147483648) : aft p k = p := by unfold aft; rw [if_pos c]
theorem aft_done (p k : Int) (c : 2147483648 ≤ p) (d : p % 16777216 ≤ k) : aft p k = 0 := by unfold aft; rw [if_neg (by omega), if_pos d]
theorem aft_mid (p k : Int) (c : 2147483648 ≤ p) (d : k < p % 16777216) : aft p k = (if k % 2 = 1 then flipF p else p) - k := by
  unfold aft; rw [if_neg (by omega), if_neg (by omega)]

/-- '(p &^ frames) | n' -/
theorem or_low (p n : Int) (h0 : 0 ≤ p) (h1 : p < 4294967296) (hn : 0 ≤ n) (hn1 : n < 16777216) : bits .or .u32 (p - p % 16777216) n = p - p % 16777216 + n := by
  go_bits2

end Go.Proofs.Qxb6603173aMods.Plain
