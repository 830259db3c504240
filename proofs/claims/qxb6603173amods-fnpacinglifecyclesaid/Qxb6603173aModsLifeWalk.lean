/- The walk of FnPacingLifecycle. -/
import Derived.Test.Qxb6603173aModsEncode
import Derived.WalkKit
import Derived.WalkSpells
namespace Go.Proofs.Qxb6603173aMods.LifeWalk
open Go.RowKit
open Go.Proofs.Qxb6603173aMods.Plain Go.Proofs.Qxb6603173aMods.Calls Go.Proofs.Qxb6603173aMods.Encode

/-- The byte at place i: nought beyond the list. -/
def byteAt (z : List Int) (i : Nat) : Int := z.getD i 0

set_option maxHeartbeats 1000000 in
theorem walk_on (h0 j0 : Bool) (l0 : Int) (b off len cap : Nat) (z : List Int) (w : World) (hlen : len ≤ 1048576)
    (hby : ∀ i, 0 ≤ byteAt z i ∧ byteAt z i ≤ 255) (hl0 : 1 ≤ l0) (hl1 : l0 ≤ 16777215)
    (hcell : ∀ i, i < len → w.cell? ⟨b, off + i, none⟩ = some (.int .u8 (byteAt z i))) :
    Calls Trym.prog 5 #[.bool true, .bool h0, .bool j0, .int .u32 l0, .slice (some ⟨b, off, none⟩) len cap] w fun e w' => e = .returned (.bool true) ∧ Below w.heap.size w w' := by
  have HC : Hid (∀ i, i < len → w.cell? ⟨b, off + i, none⟩ = some (.int .u8 (byteAt z i))) := hcell
  have HY : Hid (∀ i, 0 ≤ byteAt z i ∧ byteAt z i ≤ 255) := hby
  clear hcell hby
  go_enter Trym.func5, Trym.ntmps5
  go_wp2_with fail
  refine (bytes5_any _ _ _ _ _ _ _ _ hlen).mono ?_
  rintro e w' ⟨rfl, rfl⟩
  go_wp2_with fail
  refine (zzEncode_any _ _ _ _ _ (by omega) (by omega)).mono ?_
  rintro e w' ⟨rfl, rfl⟩
  go_wp2_with fail
  go_loop [11, 12, 13, 14, 15, 16] (fun pv hv jv lv sv iv => ∃ (k : Nat) (p h j : Bool) (l : Int), k ≤ len ∧ pv = .bool p ∧ hv = .bool h ∧ jv = .bool j ∧ lv = .int .u32 l ∧ sv = .int .u32 (encF p h j l) ∧ iv = .int .i64 k ∧ 0 ≤ l ∧ l ≤ 16777215 ∧ Hid (p = true → 1 ≤ l))
    (fun _ _ _ _ _ iv => len - (intOf iv).toNat)
  case atStart => exact ⟨0, _, _, _, _, Nat.zero_le _, rfl, rfl, rfl, rfl, rfl, rfl, by omega, by omega, fun _ => hl0⟩
  case round =>
    obtain ⟨k, p, h, j, l, hk, rfl, rfl, rfl, rfl, rfl, rfl, hl0, hl1, HP⟩ := hrel
    by_cases hlt : k < len
    · have hcx := HC.out k hlt
      have hy := HY.out k
      generalize byteAt z k = e at hcx hy
      have h1 := and1 e hy.1 hy.2
      have hbd := encF_bd p h j l hl0 hl1
      by_cases he : e % 2 = 0
      · have ht : (e % 2 == 0) = true := by simp; omega
        have h2 := and2 e hy.1 hy.2
        clear he
        by_cases hm : e / 2 % 2 = 0
        · have hm2 : (e / 2 % 2 * 2 != 0) = false := by simp; omega
          clear hm
          cases p
          · have hE := ahead_no h j l
            go_wp2_with fail
            refine (zzAhead_any' _ _ _ hbd.1 hbd.2).mono ?_
            rintro e w' ⟨rfl, rfl⟩
            go_wp2_with fail
            refine (zzEncode_any _ _ _ _ _ (by omega) (by omega)).mono ?_
            rintro e w' ⟨rfl, rfl⟩
            go_wp2_with fail
            go_round
            case rel => exact ⟨k + 1, _, _, _, _, by omega, rfl, rfl, rfl, rfl, rfl, by go_num, by omega, by omega, fun h => by cases h⟩
            case measure => simp [intOf]; omega

          · have hE := ahead_on false h j l hl0
            have hl2 : 1 ≤ l := HP.out rfl
            go_wp2_with fail
            refine (zzAhead_any' _ _ _ hbd.1 hbd.2).mono ?_
            rintro e w' ⟨rfl, rfl⟩
            go_wp2_with fail
            refine (zzEncode_any _ _ _ _ _ (by omega) (by omega)).mono ?_
            rintro e w' ⟨rfl, rfl⟩
            go_wp2_with fail
            go_round
            case rel => exact ⟨k + 1, _, _, _, _, by omega, rfl, rfl, rfl, rfl, rfl, by go_num, by omega, by omega, fun _ => hl2⟩
            case measure => simp [intOf]; omega

        · have hm2 : (e / 2 % 2 * 2 != 0) = true := by simp; omega
          clear hm
          cases p
          · cases h
            · have hE := ahead_first j l
              go_wp2_with fail
              refine (zzAhead_any' _ _ _ hbd.1 hbd.2).mono ?_
              rintro e w' ⟨rfl, rfl⟩
              go_wp2_with fail
              refine (zzEncode_any _ _ _ _ _ (by omega) (by omega)).mono ?_
              rintro e w' ⟨rfl, rfl⟩
              go_wp2_with fail
              go_round
              case rel => exact ⟨k + 1, _, _, _, _, by omega, rfl, rfl, rfl, rfl, rfl, by go_num, by omega, by omega, fun h => by cases h⟩
              case measure => simp [intOf]; omega

            · have hE := ahead_second j l
              go_wp2_with fail
              refine (zzAhead_any' _ _ _ hbd.1 hbd.2).mono ?_
              rintro e w' ⟨rfl, rfl⟩
              go_wp2_with fail
              refine (zzEncode_any _ _ _ _ _ (by decide) (by decide)).mono ?_
              rintro e w' ⟨rfl, rfl⟩
              go_wp2_with fail
              go_round
              case rel => exact ⟨k + 1, _, _, _, _, by omega, rfl, rfl, rfl, rfl, rfl, by go_num, by decide, by decide, fun _ => by decide⟩
              case measure => simp [intOf]; omega

          · have hE := ahead_on true h j l hl0
            have hl2 : 1 ≤ l := HP.out rfl
            go_wp2_with fail
            refine (zzAhead_any' _ _ _ hbd.1 hbd.2).mono ?_
            rintro e w' ⟨rfl, rfl⟩
            go_wp2_with fail
            refine (zzEncode_any _ _ _ _ _ (by omega) (by omega)).mono ?_
            rintro e w' ⟨rfl, rfl⟩
            go_wp2_with fail
            go_round
            case rel => exact ⟨k + 1, _, _, _, _, by omega, rfl, rfl, rfl, rfl, rfl, by go_num, by omega, by omega, fun _ => hl2⟩
            case measure => simp [intOf]; omega

      · have ht : (e % 2 == 0) = false := by simp; omega
        clear he
        cases p
        · have hE := frame_off h j l
          go_wp2_with fail
          refine (zzFrame_any' _ _ hbd.1 hbd.2).mono ?_
          rintro e w' ⟨rfl, rfl⟩
          go_wp2_with fail
          refine (zzEncode_any _ _ _ _ _ (by omega) (by omega)).mono ?_
          rintro e w' ⟨rfl, rfl⟩
          go_wp2_with fail
          go_round
          case rel => exact ⟨k + 1, _, _, _, _, by omega, rfl, rfl, rfl, rfl, rfl, by go_num, by omega, by omega, fun h => by cases h⟩
          case measure => simp [intOf]; omega

        · have hl2 := HP.out rfl
          by_cases hl3 : l ≤ 1
          · have hE := frame_last h j l hl2 hl3
            have hz : (l - 1 == 0) = true := by simp; omega
            go_wp2_with fail
            refine (zzFrame_any' _ _ hbd.1 hbd.2).mono ?_
            rintro e w' ⟨rfl, rfl⟩
            go_wp2_with fail
            refine (zzEncode_any _ _ _ _ _ (by omega) (by omega)).mono ?_
            rintro e w' ⟨rfl, rfl⟩
            go_wp2_with fail
            go_round
            case rel => exact ⟨k + 1, _, _, _, _, by omega, rfl, rfl, rfl, rfl, rfl, by go_num, by omega, by omega, fun h => by cases h⟩
            case measure => simp [intOf]; omega

          · have hE := frame_on h j l (by omega) hl1
            have hz : (l - 1 == 0) = false := by simp; omega
            go_wp2_with fail
            refine (zzFrame_any' _ _ hbd.1 hbd.2).mono ?_
            rintro e w' ⟨rfl, rfl⟩
            go_wp2_with fail
            refine (zzEncode_any _ _ _ _ _ (by omega) (by omega)).mono ?_
            rintro e w' ⟨rfl, rfl⟩
            go_wp2_with fail
            go_round
            case rel => exact ⟨k + 1, _, _, _, _, by omega, rfl, rfl, rfl, rfl, rfl, by go_num, by omega, by omega, fun _ => by omega⟩
            case measure => simp [intOf]; omega

    · go_wp2_with fail
      go_ret
      exact ⟨rfl, Below.refl _ _⟩

set_option maxHeartbeats 1000000 in
theorem walk_off (h0 j0 : Bool) (l0 : Int) (b off len cap : Nat) (z : List Int) (w : World) (hlen : len ≤ 1048576)
    (hby : ∀ i, 0 ≤ byteAt z i ∧ byteAt z i ≤ 255)
    (hcell : ∀ i, i < len → w.cell? ⟨b, off + i, none⟩ = some (.int .u8 (byteAt z i))) :
    Calls Trym.prog 5 #[.bool false, .bool h0, .bool j0, .int .u32 l0, .slice (some ⟨b, off, none⟩) len cap] w fun e w' => e = .returned (.bool true) ∧ Below w.heap.size w w' := by
  have HC : Hid (∀ i, i < len → w.cell? ⟨b, off + i, none⟩ = some (.int .u8 (byteAt z i))) := hcell
  have HY : Hid (∀ i, 0 ≤ byteAt z i ∧ byteAt z i ≤ 255) := hby
  clear hcell hby
  go_enter Trym.func5, Trym.ntmps5
  go_wp2_with fail
  refine (bytes5_any _ _ _ _ _ _ _ _ hlen).mono ?_
  rintro e w' ⟨rfl, rfl⟩
  go_wp2_with fail
  refine (zzEncode_any _ _ _ _ _ (by omega) (by omega)).mono ?_
  rintro e w' ⟨rfl, rfl⟩
  go_wp2_with fail
  go_loop [11, 12, 13, 14, 15, 16] (fun pv hv jv lv sv iv => ∃ (k : Nat) (p h j : Bool) (l : Int), k ≤ len ∧ pv = .bool p ∧ hv = .bool h ∧ jv = .bool j ∧ lv = .int .u32 l ∧ sv = .int .u32 (encF p h j l) ∧ iv = .int .i64 k ∧ 0 ≤ l ∧ l ≤ 16777215 ∧ Hid (p = true → 1 ≤ l))
    (fun _ _ _ _ _ iv => len - (intOf iv).toNat)
  case atStart => exact ⟨0, _, _, _, _, Nat.zero_le _, rfl, rfl, rfl, rfl, rfl, rfl, by omega, by omega, fun h => by cases h⟩
  case round =>
    obtain ⟨k, p, h, j, l, hk, rfl, rfl, rfl, rfl, rfl, rfl, hl0, hl1, HP⟩ := hrel
    by_cases hlt : k < len
    · have hcx := HC.out k hlt
      have hy := HY.out k
      generalize byteAt z k = e at hcx hy
      have h1 := and1 e hy.1 hy.2
      have hbd := encF_bd p h j l hl0 hl1
      by_cases he : e % 2 = 0
      · have ht : (e % 2 == 0) = true := by simp; omega
        have h2 := and2 e hy.1 hy.2
        clear he
        by_cases hm : e / 2 % 2 = 0
        · have hm2 : (e / 2 % 2 * 2 != 0) = false := by simp; omega
          clear hm
          cases p
          · have hE := ahead_no h j l
            go_wp2_with fail
            refine (zzAhead_any' _ _ _ hbd.1 hbd.2).mono ?_
            rintro e w' ⟨rfl, rfl⟩
            go_wp2_with fail
            refine (zzEncode_any _ _ _ _ _ (by omega) (by omega)).mono ?_
            rintro e w' ⟨rfl, rfl⟩
            go_wp2_with fail
            go_round
            case rel => exact ⟨k + 1, _, _, _, _, by omega, rfl, rfl, rfl, rfl, rfl, by go_num, by omega, by omega, fun h => by cases h⟩
            case measure => simp [intOf]; omega

          · have hE := ahead_on false h j l hl0
            have hl2 : 1 ≤ l := HP.out rfl
            go_wp2_with fail
            refine (zzAhead_any' _ _ _ hbd.1 hbd.2).mono ?_
            rintro e w' ⟨rfl, rfl⟩
            go_wp2_with fail
            refine (zzEncode_any _ _ _ _ _ (by omega) (by omega)).mono ?_
            rintro e w' ⟨rfl, rfl⟩
            go_wp2_with fail
            go_round
            case rel => exact ⟨k + 1, _, _, _, _, by omega, rfl, rfl, rfl, rfl, rfl, by go_num, by omega, by omega, fun _ => hl2⟩
            case measure => simp [intOf]; omega

        · have hm2 : (e / 2 % 2 * 2 != 0) = true := by simp; omega
          clear hm
          cases p
          · cases h
            · have hE := ahead_first j l
              go_wp2_with fail
              refine (zzAhead_any' _ _ _ hbd.1 hbd.2).mono ?_
              rintro e w' ⟨rfl, rfl⟩
              go_wp2_with fail
              refine (zzEncode_any _ _ _ _ _ (by omega) (by omega)).mono ?_
              rintro e w' ⟨rfl, rfl⟩
              go_wp2_with fail
              go_round
              case rel => exact ⟨k + 1, _, _, _, _, by omega, rfl, rfl, rfl, rfl, rfl, by go_num, by omega, by omega, fun h => by cases h⟩
              case measure => simp [intOf]; omega

            · have hE := ahead_second j l
              go_wp2_with fail
              refine (zzAhead_any' _ _ _ hbd.1 hbd.2).mono ?_
              rintro e w' ⟨rfl, rfl⟩
              go_wp2_with fail
              refine (zzEncode_any _ _ _ _ _ (by decide) (by decide)).mono ?_
              rintro e w' ⟨rfl, rfl⟩
              go_wp2_with fail
              go_round
              case rel => exact ⟨k + 1, _, _, _, _, by omega, rfl, rfl, rfl, rfl, rfl, by go_num, by decide, by decide, fun _ => by decide⟩
              case measure => simp [intOf]; omega

          · have hE := ahead_on true h j l hl0
            have hl2 : 1 ≤ l := HP.out rfl
            go_wp2_with fail
            refine (zzAhead_any' _ _ _ hbd.1 hbd.2).mono ?_
            rintro e w' ⟨rfl, rfl⟩
            go_wp2_with fail
            refine (zzEncode_any _ _ _ _ _ (by omega) (by omega)).mono ?_
            rintro e w' ⟨rfl, rfl⟩
            go_wp2_with fail
            go_round
            case rel => exact ⟨k + 1, _, _, _, _, by omega, rfl, rfl, rfl, rfl, rfl, by go_num, by omega, by omega, fun _ => hl2⟩
            case measure => simp [intOf]; omega

      · have ht : (e % 2 == 0) = false := by simp; omega
        clear he
        cases p
        · have hE := frame_off h j l
          go_wp2_with fail
          refine (zzFrame_any' _ _ hbd.1 hbd.2).mono ?_
          rintro e w' ⟨rfl, rfl⟩
          go_wp2_with fail
          refine (zzEncode_any _ _ _ _ _ (by omega) (by omega)).mono ?_
          rintro e w' ⟨rfl, rfl⟩
          go_wp2_with fail
          go_round
          case rel => exact ⟨k + 1, _, _, _, _, by omega, rfl, rfl, rfl, rfl, rfl, by go_num, by omega, by omega, fun h => by cases h⟩
          case measure => simp [intOf]; omega

        · have hl2 := HP.out rfl
          by_cases hl3 : l ≤ 1
          · have hE := frame_last h j l hl2 hl3
            have hz : (l - 1 == 0) = true := by simp; omega
            go_wp2_with fail
            refine (zzFrame_any' _ _ hbd.1 hbd.2).mono ?_
            rintro e w' ⟨rfl, rfl⟩
            go_wp2_with fail
            refine (zzEncode_any _ _ _ _ _ (by omega) (by omega)).mono ?_
            rintro e w' ⟨rfl, rfl⟩
            go_wp2_with fail
            go_round
            case rel => exact ⟨k + 1, _, _, _, _, by omega, rfl, rfl, rfl, rfl, rfl, by go_num, by omega, by omega, fun h => by cases h⟩
            case measure => simp [intOf]; omega

          · have hE := frame_on h j l (by omega) hl1
            have hz : (l - 1 == 0) = false := by simp; omega
            go_wp2_with fail
            refine (zzFrame_any' _ _ hbd.1 hbd.2).mono ?_
            rintro e w' ⟨rfl, rfl⟩
            go_wp2_with fail
            refine (zzEncode_any _ _ _ _ _ (by omega) (by omega)).mono ?_
            rintro e w' ⟨rfl, rfl⟩
            go_wp2_with fail
            go_round
            case rel => exact ⟨k + 1, _, _, _, _, by omega, rfl, rfl, rfl, rfl, rfl, by go_num, by omega, by omega, fun _ => by omega⟩
            case measure => simp [intOf]; omega

    · go_wp2_with fail
      go_ret
      exact ⟨rfl, Below.refl _ _⟩

set_option maxHeartbeats 400000 in
theorem walk_none (p h j : Bool) (l : Int) (a0 : Option Addr) (len cap : Nat) (w : World) (h00 : len ≤ 0) (hl0 : 0 ≤ l) (hl1 : l ≤ 4294967295) :
    Calls Trym.prog 5 #[.bool p, .bool h, .bool j, .int .u32 l, .slice a0 len cap] w fun e w' => e = .returned (.bool true) ∧ Below w.heap.size w w' := by
  have hlen : len ≤ 1048576 := by omega
  cases p
  · go_enter Trym.func5, Trym.ntmps5
    go_wp2_with fail
    refine (bytes5_any _ _ _ _ _ _ _ _ hlen).mono ?_
    rintro e w' ⟨rfl, rfl⟩
    go_wp2_with fail
    refine (zzEncode_any _ _ _ _ _ (by omega) (by omega)).mono ?_
    rintro e w' ⟨rfl, rfl⟩
    go_wp2_with fail
    go_loop [16] (fun iv => ∃ k : Nat, iv = .int .i64 k) (fun _ => 0)
    case atStart => exact ⟨0, rfl⟩
    case round =>
      obtain ⟨k, rfl⟩ := hrel
      go_wp2_with fail
      go_ret
      exact ⟨rfl, Below.refl _ _⟩
  · by_cases c1 : l < 1
    · go_enter Trym.func5, Trym.ntmps5
      go_wp2_with fail
      refine (bytes5_any _ _ _ _ _ _ _ _ hlen).mono ?_
      rintro e w' ⟨rfl, rfl⟩
      go_wp2_with fail
      go_ret
      exact ⟨rfl, Below.refl _ _⟩
    · by_cases c2 : 16777215 < l
      · go_enter Trym.func5, Trym.ntmps5
        go_wp2_with fail
        refine (bytes5_any _ _ _ _ _ _ _ _ hlen).mono ?_
        rintro e w' ⟨rfl, rfl⟩
        go_wp2_with fail
        go_ret
        exact ⟨rfl, Below.refl _ _⟩
      · go_enter Trym.func5, Trym.ntmps5
        go_wp2_with fail
        refine (bytes5_any _ _ _ _ _ _ _ _ hlen).mono ?_
        rintro e w' ⟨rfl, rfl⟩
        go_wp2_with fail
        refine (zzEncode_any _ _ _ _ _ (by omega) (by omega)).mono ?_
        rintro e w' ⟨rfl, rfl⟩
        go_wp2_with fail
        go_loop [16] (fun iv => ∃ k : Nat, iv = .int .i64 k) (fun _ => 0)
        case atStart => exact ⟨0, rfl⟩
        case round =>
          obtain ⟨k, rfl⟩ := hrel
          go_wp2_with fail
          go_ret
          exact ⟨rfl, Below.refl _ _⟩

set_option maxHeartbeats 400000 in
theorem walk (p h j : Bool) (l : Int) (a0 : Option Addr) (len cap : Nat) (z : List Int) (w : World) (hm : len ≤ maxLen) (hl0 : 0 ≤ l) (hl1 : l ≤ 4294967295)
    (hby : ∀ i, 0 ≤ byteAt z i ∧ byteAt z i ≤ 255)
    (hpos : 0 < len → ∃ b off, a0 = some ⟨b, off, none⟩ ∧ ∀ i, i < len → w.cell? ⟨b, off + i, none⟩ = some (.int .u8 (byteAt z i))) :
    Calls Trym.prog 5 #[.bool p, .bool h, .bool j, .int .u32 l, .slice a0 len cap] w fun e w' => e = .returned (.bool true) ∧ Below w.heap.size w w' := by
  unfold maxLen at hm
  by_cases c0 : 1048576 < len
  · clear hpos hby
    go_enter Trym.func5, Trym.ntmps5
    go_wp2_with fail
    refine (bytes5_no _ _ _ _ _ _ _ _ c0).mono ?_
    rintro e w' ⟨rfl, rfl⟩
    go_wp2_with fail
    go_ret
    exact ⟨rfl, Below.refl _ _⟩
  have c1 : len ≤ 1048576 := by omega
  by_cases hz : 0 < len
  · obtain ⟨b, off, rfl, hc⟩ := hpos hz
    cases p
    · exact walk_off h j l b off len cap z w c1 hby hc
    · by_cases d1 : l < 1
      · clear hpos hby hc
        go_enter Trym.func5, Trym.ntmps5
        go_wp2_with fail
        refine (bytes5_any _ _ _ _ _ _ _ _ c1).mono ?_
        rintro e w' ⟨rfl, rfl⟩
        go_wp2_with fail
        go_ret
        exact ⟨rfl, Below.refl _ _⟩
      · by_cases d2 : 16777215 < l
        · clear hpos hby hc
          go_enter Trym.func5, Trym.ntmps5
          go_wp2_with fail
          refine (bytes5_any _ _ _ _ _ _ _ _ c1).mono ?_
          rintro e w' ⟨rfl, rfl⟩
          go_wp2_with fail
          go_ret
          exact ⟨rfl, Below.refl _ _⟩
        · exact walk_on h j l b off len cap z w c1 hby (by omega) (by omega) hc
  · exact walk_none p h j l a0 len cap w (by omega) hl0 hl1
end Go.Proofs.Qxb6603173aMods.LifeWalk
