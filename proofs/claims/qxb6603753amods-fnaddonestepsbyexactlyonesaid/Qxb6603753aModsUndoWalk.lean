/- The walk of FnAddOneUpAndDownUndoEachOther. -/
import Derived.Test.Qxb6603753aModsAddOne
import Derived.Test.Qxb6603753aModsScan
import Derived.WalkKit
import Derived.WalkSpells
import Derived.WalkLawsBesides
namespace Go.Proofs.Qxb6603753aMods.UndoWalk
open Go.RowKit
open Go.Proofs.Qxb6603753aMods.Digits Go.Proofs.Qxb6603753aMods.AddOne Go.Proofs.Qxb6603753aMods.Scan

/-- What ZZaddOne answers. -/
def Adds (s : ByteArray) (b : Bool) (r : ByteArray) : Prop :=
  ∀ w : World, Calls Trym.prog 12 #[.string s, .bool b] w fun e w' => e = .returned (.string r) ∧ Below w.heap.size w w'

set_option maxHeartbeats 400000 in
theorem core_zero (s up : ByteArray) (w : World) (hs : s.size ≤ 65536) (hp : 0 < s.size) (hd : Each (fun n => 48 ≤ n ∧ n ≤ 57) s) (h9 : ¬ Each (fun n => n = 57) s) (h0 : Each (fun n => n = 48) s)
    (hup : Adds s false up) (hback : Adds up true s) :
    Calls Trym.prog 5 #[.string s] w fun e w' => e = .returned (.bool true) ∧ Below w.heap.size w w' := by
  go_enter Trym.func5, Trym.ntmps5
  go_wp2_with fail
  refine (bytes16_yes _ _ (by omega)).mono ?_
  rintro e w' ⟨rfl, rfl⟩
  go_wp2_with fail
  refine (allDecimal_yes _ _ (by omega) hp hd).mono ?_
  rintro e w' ⟨rfl, rfl⟩
  go_wp2_with fail
  refine (hup _).mono ?_
  rintro e w1 ⟨rfl, hb1⟩
  go_wp2_with fail
  refine (hback _).mono ?_
  rintro e w2 ⟨rfl, hb2⟩
  go_wp2_with fail
  refine (allNines_some _ _ (by omega) h9).mono ?_
  rintro e w' ⟨rfl, rfl⟩
  go_wp2_with fail
  refine (hasNonzero_all _ _ (by omega) h0).mono ?_
  rintro e w' ⟨rfl, rfl⟩
  go_wp2_with fail
  go_ret
  exact ⟨rfl, hb1.trans (hb2.mono hb1.size)⟩

set_option maxHeartbeats 400000 in
theorem core_pos (s up dn : ByteArray) (w : World) (hs : s.size ≤ 65536) (hp : 0 < s.size) (hd : Each (fun n => 48 ≤ n ∧ n ≤ 57) s) (h9 : ¬ Each (fun n => n = 57) s) (h0 : ¬ Each (fun n => n = 48) s)
    (hup : Adds s false up) (hback : Adds up true s) (hdn : Adds s true dn) (hre : Adds dn false s) :
    Calls Trym.prog 5 #[.string s] w fun e w' => e = .returned (.bool true) ∧ Below w.heap.size w w' := by
  go_enter Trym.func5, Trym.ntmps5
  go_wp2_with fail
  refine (bytes16_yes _ _ (by omega)).mono ?_
  rintro e w' ⟨rfl, rfl⟩
  go_wp2_with fail
  refine (allDecimal_yes _ _ (by omega) hp hd).mono ?_
  rintro e w' ⟨rfl, rfl⟩
  go_wp2_with fail
  refine (hup _).mono ?_
  rintro e w1 ⟨rfl, hb1⟩
  go_wp2_with fail
  refine (hback _).mono ?_
  rintro e w2 ⟨rfl, hb2⟩
  go_wp2_with fail
  refine (allNines_some _ _ (by omega) h9).mono ?_
  rintro e w' ⟨rfl, rfl⟩
  go_wp2_with fail
  refine (hasNonzero_some _ _ (by omega) h0).mono ?_
  rintro e w' ⟨rfl, rfl⟩
  go_wp2_with fail
  refine (hdn _).mono ?_
  rintro e w3 ⟨rfl, hb3⟩
  go_wp2_with fail
  refine (hre _).mono ?_
  rintro e w4 ⟨rfl, hb4⟩
  have B2 : Below w.heap.size w w2 := hb1.trans (hb2.mono hb1.size)
  have B3 : Below w.heap.size w w3 := B2.trans (hb3.mono B2.size)
  go_wp2_with fail
  go_ret
  exact ⟨rfl, B3.trans (hb4.mono B3.size)⟩

set_option maxHeartbeats 400000 in
theorem core_nines (s up dn : ByteArray) (w : World) (hs : s.size ≤ 65536) (hp : 0 < s.size) (hd : Each (fun n => 48 ≤ n ∧ n ≤ 57) s) (h9 : Each (fun n => n = 57) s) (h0 : ¬ Each (fun n => n = 48) s)
    (hup : Adds s false up) (hback : Adds up true (⟨#[48]⟩ ++ s)) (hdn : Adds s true dn) (hre : Adds dn false s) :
    Calls Trym.prog 5 #[.string s] w fun e w' => e = .returned (.bool true) ∧ Below w.heap.size w w' := by
  go_enter Trym.func5, Trym.ntmps5
  go_wp2_with fail
  refine (bytes16_yes _ _ (by omega)).mono ?_
  rintro e w' ⟨rfl, rfl⟩
  go_wp2_with fail
  refine (allDecimal_yes _ _ (by omega) hp hd).mono ?_
  rintro e w' ⟨rfl, rfl⟩
  go_wp2_with fail
  refine (hup _).mono ?_
  rintro e w1 ⟨rfl, hb1⟩
  go_wp2_with fail
  refine (hback _).mono ?_
  rintro e w2 ⟨rfl, hb2⟩
  go_wp2_with fail
  refine (allNines_all _ _ (by omega) h9).mono ?_
  rintro e w' ⟨rfl, rfl⟩
  go_wp2_with fail
  refine (hasNonzero_some _ _ (by omega) h0).mono ?_
  rintro e w' ⟨rfl, rfl⟩
  go_wp2_with fail
  refine (hdn _).mono ?_
  rintro e w3 ⟨rfl, hb3⟩
  go_wp2_with fail
  refine (hre _).mono ?_
  rintro e w4 ⟨rfl, hb4⟩
  have B2 : Below w.heap.size w w2 := hb1.trans (hb2.mono hb1.size)
  have B3 : Below w.heap.size w w3 := B2.trans (hb3.mono B2.size)
  go_wp2_with fail
  go_ret
  exact ⟨rfl, B3.trans (hb4.mono B3.size)⟩

theorem str_self (s : ByteArray) : s = str s.data.toList := by
  apply ByteArray.ext
  simp [str]
theorem each_iff (P : Nat → Prop) (l : List UInt8) : Each P (str l) ↔ ∀ b ∈ l, P b.toNat := by
  constructor
  · intro h b hb
    obtain ⟨k, hk, rfl⟩ := List.getElem_of_mem hb
    exact h k (by rw [size_str]; exact hk)
  · intro h k hk
    rw [size_str] at hk
    exact h l[k] (List.getElem_mem hk)
theorem ne_of (d x : UInt8) (n : Nat) (hx : x.toNat = n) (h : d ≠ x) : d.toNat ≠ n := fun e => h (UInt8.toNat_inj.1 (e.trans hx.symm))
theorem toNat_of (n : Nat) (h : n < 256) : (UInt8.ofNat n).toNat = n := by
  rw [UInt8.toNat_ofNat']; omega

theorem steps_down (l : List UInt8) (hd : Dec l) (hn : l.length ≤ 65536) (h : ¬ ∀ b ∈ l, b.toNat = 48) :
    ∃ dn, Adds (str l) true dn ∧ Adds dn false (str l) := by
  rcases split_run 48 l with e | ⟨p, d, k, rfl, hne⟩
  · exact absurd (fun b hb => by rw [e, List.mem_replicate] at hb; rw [hb.2]; rfl) h
  · have hp := dec_pat hd
    rw [pat_length] at hn
    have hd48 := ne_of d 48 48 rfl hne
    have e1 := toNat_of (d.toNat - 1) (by omega)
    exact ⟨str (pat p (UInt8.ofNat (d.toNat - 1)) k 57),
      fun w => zz_down_pat p d (UInt8.ofNat (d.toNat - 1)) k w hp.2 hd48 (by rw [e1]; omega) (by omega),
      fun w => zz_up_pat p (UInt8.ofNat (d.toNat - 1)) d k w (by rw [e1]; omega) (by rw [e1]; omega) (by rw [e1]; omega) (by omega)⟩
theorem steps_up (l : List UInt8) (hd : Dec l) (hn : l.length ≤ 65536) (h : ¬ ∀ b ∈ l, b.toNat = 57) :
    ∃ up, Adds (str l) false up ∧ Adds up true (str l) := by
  rcases split_run 57 l with e | ⟨p, d, k, rfl, hne⟩
  · exact absurd (fun b hb => by rw [e, List.mem_replicate] at hb; rw [hb.2]; rfl) h
  · have hp := dec_pat hd
    rw [pat_length] at hn
    have hd57 := ne_of d 57 57 rfl hne
    have e1 := toNat_of (d.toNat + 1) (by omega)
    exact ⟨str (pat p (UInt8.ofNat (d.toNat + 1)) k 48),
      fun w => zz_up_pat p d (UInt8.ofNat (d.toNat + 1)) k w hp.2 hd57 (by rw [e1]; omega) (by omega),
      fun w => zz_down_pat p (UInt8.ofNat (d.toNat + 1)) d k w (by rw [e1]; omega) (by rw [e1]; omega) (by rw [e1]; omega) (by omega)⟩
theorem steps_nines (l : List UInt8) (hn : l.length ≤ 65536) (h : ∀ b ∈ l, b.toNat = 57) :
    ∃ up, Adds (str l) false up ∧ Adds up true (⟨#[48]⟩ ++ str l) := by
  have e : l = List.replicate l.length 57 := by
    rw [List.eq_replicate_iff]
    exact ⟨rfl, fun b hb => UInt8.toNat_inj.1 (h b hb)⟩
  generalize l.length = n at e hn
  subst e
  refine ⟨str (49 :: List.replicate n 48), fun w => zz_up_nines n w (by omega), fun w => ?_⟩
  rw [one_cat]
  exact zz_down_pat [] 49 48 n w (by decide) (by decide) (by decide) (by show 0 + 1 + n ≤ 131072; omega)

set_option maxHeartbeats 400000 in
theorem walk (s : ByteArray) (w : World) (hm : s.size ≤ maxLen) :
    Calls Trym.prog 5 #[.string s] w fun e w' => e = .returned (.bool true) ∧ Below w.heap.size w w' := by
  by_cases c0 : 1048576 < s.size
  · go_enter Trym.func5, Trym.ntmps5
    go_wp2_with fail
    refine (bytes16_no _ _ c0 hm).mono ?_
    rintro e w' ⟨rfl, rfl⟩
    go_wp2_with fail
    go_ret
    exact ⟨rfl, Below.refl _ _⟩
  clear hm
  by_cases c1 : 65536 < s.size
  · go_enter Trym.func5, Trym.ntmps5
    go_wp2_with fail
    refine (bytes16_yes _ _ (by omega)).mono ?_
    rintro e w' ⟨rfl, rfl⟩
    go_wp2_with fail
    go_ret
    exact ⟨rfl, Below.refl _ _⟩
  by_cases c2 : 0 < s.size ∧ Each (fun n => 48 ≤ n ∧ n ≤ 57) s
  · obtain ⟨hp, hd⟩ := c2
    have hs : s.size ≤ 65536 := by omega
    have hl : s.data.toList.length = s.size := by rw [Array.length_toList]; rfl
    have hD : Dec s.data.toList := by rw [str_self s, each_iff] at hd; exact hd
    have i48 : Each (fun n => n = 48) s ↔ ∀ b ∈ s.data.toList, b.toNat = 48 := by
      have := each_iff (fun n => n = 48) s.data.toList
      rwa [← str_self] at this
    have i57 : Each (fun n => n = 57) s ↔ ∀ b ∈ s.data.toList, b.toNat = 57 := by
      have := each_iff (fun n => n = 57) s.data.toList
      rwa [← str_self] at this
    by_cases h9 : Each (fun n => n = 57) s
    · have h0 : ¬ Each (fun n => n = 48) s := fun h => by
        have a := h 0 hp
        have b := h9 0 hp
        simp only at a b
        omega
      obtain ⟨up, u1, u2⟩ := steps_nines s.data.toList (by omega) (i57.1 h9)
      obtain ⟨dn, d1, d2⟩ := steps_down s.data.toList hD (by omega) (fun h => h0 (i48.2 h))
      rw [← str_self] at u1 u2 d1 d2
      exact core_nines s up dn w hs hp hd h9 h0 u1 u2 d1 d2
    · obtain ⟨up, u1, u2⟩ := steps_up s.data.toList hD (by omega) (fun h => h9 (i57.2 h))
      rw [← str_self] at u1 u2
      by_cases h0 : Each (fun n => n = 48) s
      · exact core_zero s up w hs hp hd h9 h0 u1 u2
      · obtain ⟨dn, d1, d2⟩ := steps_down s.data.toList hD (by omega) (fun h => h0 (i48.2 h))
        rw [← str_self] at d1 d2
        exact core_pos s up dn w hs hp hd h9 h0 u1 u2 d1 d2
  · go_enter Trym.func5, Trym.ntmps5
    go_wp2_with fail
    refine (bytes16_yes _ _ (by omega)).mono ?_
    rintro e w' ⟨rfl, rfl⟩
    go_wp2_with fail
    refine (allDecimal_no _ _ (by omega) c2).mono ?_
    rintro e w' ⟨rfl, rfl⟩
    go_wp2_with fail
    go_ret
    exact ⟨rfl, Below.refl _ _⟩
end Go.Proofs.Qxb6603753aMods.UndoWalk
