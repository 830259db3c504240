/- The walk of FnAddOneStepsByExactlyOne. -/
import Derived.Test.Qxb6603753aModsAddOne
import Derived.Test.Qxb6603753aModsScan
import Derived.Test.Qxb6603753aModsUndoWalk
import Derived.Test.Qxb6603753aModsSub
import Derived.WalkKit
import Derived.WalkSpells
import Derived.WalkLawsBesides
namespace Go.Proofs.Qxb6603753aMods.StepsWalk
open Go.RowKit
open Go.Proofs.Qxb6603753aMods.Digits Go.Proofs.Qxb6603753aMods.AddOne Go.Proofs.Qxb6603753aMods.Scan
open Go.Proofs.Qxb6603753aMods.UndoWalk (Adds str_self each_iff ne_of toNat_of)
open Go.Proofs.Qxb6603753aMods.Sub (zeros_any sub_any Apart oneIn)

/-- What zeros answers. -/
def Zer (m : Int) (z : ByteArray) : Prop := ∀ w : World, Calls Trym.prog 14 #[.int .i64 m] w fun e w' => e = .returned (.string z) ∧ Below w.heap.size w w'
/-- What subtractDecimal answers. -/
def Subs (a b d : ByteArray) : Prop := ∀ w : World, Calls Trym.prog 15 #[.string a, .string b] w fun e w' => e = .returned (.tuple #[.string d, .bool true]) ∧ Below w.heap.size w w'

set_option maxHeartbeats 400000 in
theorem core_up (s got D Z : ByteArray) (w : World) (hs : s.size ≤ 65536) (hp : 0 < s.size) (hd : Each (fun n => 48 ≤ n ∧ n ≤ 57) s) (h9 : ¬ Each (fun n => n = 57) s)
    (hg1 : got.size ≤ s.size) (hg2 : s.size ≤ got.size) (hgd : Each (fun n => 48 ≤ n ∧ n ≤ 57) got)
    (hup : Adds s false got) (hsub : Subs got s D) (hzer : Zer ((s.size : Int) - 1) Z) (hzs : Z.size ≤ 65536) (hcat : Z ++ ⟨#[49]⟩ = D) :
    Calls Trym.prog 4 #[.string s, .bool false] w fun e w' => e = .returned (.bool true) ∧ Below w.heap.size w w' := by
  have hne : ((got.size : Int) != (s.size : Int)) = false := by rw [bne_eq_false_iff_eq]; omega
  subst hcat
  go_enter Trym.func4, Trym.ntmps4
  go_wp2_with fail
  refine (bytes9_yes _ _ _ (by omega)).mono ?_
  rintro e w' ⟨rfl, rfl⟩
  go_wp2_with fail
  refine (allDecimal_yes _ _ (by omega) hp hd).mono ?_
  rintro e w' ⟨rfl, rfl⟩
  go_wp2_with fail
  refine (hup _).mono ?_
  rintro e w1 ⟨rfl, hb1⟩
  go_wp2_with fail
  refine (allNines_some _ _ (by omega) h9).mono ?_
  rintro e w' ⟨rfl, rfl⟩
  go_wp2_with fail
  refine (allDecimal_yes _ _ (by omega) (by omega) hgd).mono ?_
  rintro e w' ⟨rfl, rfl⟩
  go_wp2_with fail
  refine (hsub _).mono ?_
  rintro e w2 ⟨rfl, hb2⟩
  go_wp2_with fail
  refine (hzer _).mono ?_
  rintro e w3 ⟨rfl, hb3⟩
  have B2 : Below w.heap.size w w2 := hb1.trans (hb2.mono hb1.size)
  have B3 : Below w.heap.size w w3 := B2.trans (hb3.mono B2.size)
  go_wp2_with fail
  go_ret
  exact ⟨rfl, B3⟩

set_option maxHeartbeats 400000 in
theorem core_down (s got D Z : ByteArray) (w : World) (hs : s.size ≤ 65536) (hp : 0 < s.size) (hd : Each (fun n => 48 ≤ n ∧ n ≤ 57) s) (h0 : ¬ Each (fun n => n = 48) s)
    (hg1 : got.size ≤ s.size) (hg2 : s.size ≤ got.size) (hgd : Each (fun n => 48 ≤ n ∧ n ≤ 57) got)
    (hdn : Adds s true got) (hsub : Subs s got D) (hzer : Zer ((s.size : Int) - 1) Z) (hzs : Z.size ≤ 65536) (hcat : Z ++ ⟨#[49]⟩ = D) :
    Calls Trym.prog 4 #[.string s, .bool true] w fun e w' => e = .returned (.bool true) ∧ Below w.heap.size w w' := by
  have hne : ((got.size : Int) != (s.size : Int)) = false := by rw [bne_eq_false_iff_eq]; omega
  subst hcat
  go_enter Trym.func4, Trym.ntmps4
  go_wp2_with fail
  refine (bytes9_yes _ _ _ (by omega)).mono ?_
  rintro e w' ⟨rfl, rfl⟩
  go_wp2_with fail
  refine (allDecimal_yes _ _ (by omega) hp hd).mono ?_
  rintro e w' ⟨rfl, rfl⟩
  go_wp2_with fail
  refine (hasNonzero_some _ _ (by omega) h0).mono ?_
  rintro e w' ⟨rfl, rfl⟩
  go_wp2_with fail
  refine (hdn _).mono ?_
  rintro e w1 ⟨rfl, hb1⟩
  go_wp2_with fail
  refine (allDecimal_yes _ _ (by omega) (by omega) hgd).mono ?_
  rintro e w' ⟨rfl, rfl⟩
  go_wp2_with fail
  refine (hsub _).mono ?_
  rintro e w2 ⟨rfl, hb2⟩
  go_wp2_with fail
  refine (hzer _).mono ?_
  rintro e w3 ⟨rfl, hb3⟩
  have B2 : Below w.heap.size w w2 := hb1.trans (hb2.mono hb1.size)
  have B3 : Below w.heap.size w w3 := B2.trans (hb3.mono B2.size)
  go_wp2_with fail
  go_ret
  exact ⟨rfl, B3⟩

set_option maxHeartbeats 400000 in
theorem core_nines (s Z : ByteArray) (w : World) (hs : s.size ≤ 65536) (hp : 0 < s.size) (hd : Each (fun n => 48 ≤ n ∧ n ≤ 57) s) (h9 : Each (fun n => n = 57) s)
    (hup : Adds s false (⟨#[49]⟩ ++ Z)) (hzer : Zer (s.size : Int) Z) (hzs : Z.size ≤ 65536) :
    Calls Trym.prog 4 #[.string s, .bool false] w fun e w' => e = .returned (.bool true) ∧ Below w.heap.size w w' := by
  go_enter Trym.func4, Trym.ntmps4
  go_wp2_with fail
  refine (bytes9_yes _ _ _ (by omega)).mono ?_
  rintro e w' ⟨rfl, rfl⟩
  go_wp2_with fail
  refine (allDecimal_yes _ _ (by omega) hp hd).mono ?_
  rintro e w' ⟨rfl, rfl⟩
  go_wp2_with fail
  refine (hup _).mono ?_
  rintro e w1 ⟨rfl, hb1⟩
  go_wp2_with fail
  refine (allNines_all _ _ (by omega) h9).mono ?_
  rintro e w' ⟨rfl, rfl⟩
  go_wp2_with fail
  refine (hzer _).mono ?_
  rintro e w3 ⟨rfl, hb3⟩
  have B3 : Below w.heap.size w w3 := hb1.trans (hb3.mono hb1.size)
  go_wp2_with fail
  go_ret
  exact ⟨rfl, B3⟩

theorem at_str (l : List UInt8) (r : Nat) (h : r < (str l).size) : (((str l)[r]'h).toNat : Int) = byteI l r := by
  have hr : r < l.length := by rw [size_str] at h; exact h
  unfold byteI
  rw [List.getD_eq_getElem?_getD, List.getElem?_eq_getElem hr]
  rfl
theorem apart_pat (p : List UInt8) (d1 d2 : UInt8) (k : Nat) (hp : Dec p) (h2 : 48 ≤ d2.toNat) (h1 : d1.toNat ≤ 57) (h12 : d1.toNat = d2.toNat + 1) :
    Apart (str (pat p d1 k 48)) (str (pat p d2 k 57)) p.length := by
  intro r ha hb
  have ea := at_str _ r ha
  have eb := at_str _ r hb
  have hn : r < p.length + 1 + k := by rw [size_str, pat_length] at ha; exact ha
  generalize ((str (pat p d1 k 48))[r]'ha).toNat = x at *
  generalize ((str (pat p d2 k 57))[r]'hb).toNat = y at *
  rcases Nat.lt_trichotomy r p.length with c | c | c
  · rw [pat_low _ _ _ _ _ c] at ea eb
    obtain ⟨b, hb', hv⟩ := byteI_of_mem c
    have := hp b hb'
    rw [hv] at ea eb
    omega
  · rw [c, pat_mid] at ea eb
    omega
  · rw [pat_high _ _ _ _ _ c hn] at ea eb
    have e1 : (48 : UInt8).toNat = 48 := rfl
    have e2 : (57 : UInt8).toNat = 57 := rfl
    rw [e1] at ea
    rw [e2] at eb
    omega
theorem zer_of (m : Nat) (h : m ≤ 131072) : Zer (m : Int) (str (List.replicate m 48)) := fun w => zeros_any m w h
theorem zer_pred (n : Nat) (h0 : 0 < n) (h : n ≤ 65536) : Zer ((n : Int) - 1) (str (List.replicate (n - 1) 48)) := by
  have e : (n : Int) - 1 = ((n - 1 : Nat) : Int) := by omega
  rw [e]
  exact zer_of (n - 1) (by omega)
theorem cat_one (n : Nat) : str (List.replicate (n - 1) 48) ++ (⟨#[49]⟩ : ByteArray) = str (oneIn n) := by
  apply ByteArray.ext
  rw [ByteArray.data_append]
  show (List.replicate (n - 1) (48 : UInt8)).toArray ++ [49].toArray = (List.replicate (n - 1) (48 : UInt8) ++ [49]).toArray
  rw [List.append_toArray]
theorem size_run (n : Nat) (x : UInt8) (h : n ≤ 65536) : (str (List.replicate n x)).size ≤ 65536 := by
  rw [size_str, List.length_replicate]; exact h
theorem subs_pat (p : List UInt8) (d1 d2 : UInt8) (k : Nat) (hp : Dec p) (h2 : 48 ≤ d2.toNat) (h1 : d1.toNat ≤ 57) (h12 : d1.toNat = d2.toNat + 1) (hn : p.length + 1 + k ≤ 65536) :
    Subs (str (pat p d1 k 48)) (str (pat p d2 k 57)) (str (oneIn (p.length + 1 + k))) := by
  intro w
  have e1 : (str (pat p d1 k 48)).size = p.length + 1 + k := by rw [size_str, pat_length]
  have e2 : (str (pat p d2 k 57)).size = p.length + 1 + k := by rw [size_str, pat_length]
  have := sub_any (str (pat p d1 k 48)) (str (pat p d2 k 57)) p.length w (by omega) (by omega) (by omega) (by omega) (apart_pat p d1 d2 k hp h2 h1 h12)
  rwa [e1] at this

theorem go_up (l : List UInt8) (w : World) (hD : Dec l) (hn : l.length ≤ 65536) (hp : 0 < l.length) (h9 : ¬ ∀ b ∈ l, b.toNat = 57) :
    Calls Trym.prog 4 #[.string (str l), .bool false] w fun e w' => e = .returned (.bool true) ∧ Below w.heap.size w w' := by
  have hd : Each (fun n => 48 ≤ n ∧ n ≤ 57) (str l) := (each_iff _ l).2 hD
  have h9' : ¬ Each (fun n => n = 57) (str l) := fun h => h9 ((each_iff _ l).1 h)
  rcases split_run 57 l with e | ⟨p, d, k, rfl, hne⟩
  · exact absurd (fun b hb => by rw [e, List.mem_replicate] at hb; rw [hb.2]; rfl) h9
  · have hpd := dec_pat hD
    have hd57 := ne_of d 57 57 rfl hne
    have e1 := toNat_of (d.toNat + 1) (by omega)
    have es : (str (pat p d k 57)).size = p.length + 1 + k := by rw [size_str, pat_length]
    have eg : (str (pat p (UInt8.ofNat (d.toNat + 1)) k 48)).size = p.length + 1 + k := by rw [size_str, pat_length]
    rw [pat_length] at hn hp
    exact core_up (str (pat p d k 57)) (str (pat p (UInt8.ofNat (d.toNat + 1)) k 48)) (str (oneIn (p.length + 1 + k))) (str (List.replicate (p.length + 1 + k - 1) 48)) w
      (by omega) (by omega) hd h9' (by omega) (by omega)
      ((each_iff _ _).2 (dec_of hpd.1 (by rw [e1]; omega) (by decide)))
      (fun w => zz_up_pat p d (UInt8.ofNat (d.toNat + 1)) k w hpd.2 hd57 (by rw [e1]; omega) (by omega))
      (subs_pat p _ d k hpd.1 hpd.2.1 (by rw [e1]; omega) e1 hn)
      (by rw [es]; exact zer_pred _ hp hn) (size_run _ _ (by omega)) (cat_one _)

theorem go_down (l : List UInt8) (w : World) (hD : Dec l) (hn : l.length ≤ 65536) (hp : 0 < l.length) (h0 : ¬ ∀ b ∈ l, b.toNat = 48) :
    Calls Trym.prog 4 #[.string (str l), .bool true] w fun e w' => e = .returned (.bool true) ∧ Below w.heap.size w w' := by
  have hd : Each (fun n => 48 ≤ n ∧ n ≤ 57) (str l) := (each_iff _ l).2 hD
  have h0' : ¬ Each (fun n => n = 48) (str l) := fun h => h0 ((each_iff _ l).1 h)
  rcases split_run 48 l with e | ⟨p, d, k, rfl, hne⟩
  · exact absurd (fun b hb => by rw [e, List.mem_replicate] at hb; rw [hb.2]; rfl) h0
  · have hpd := dec_pat hD
    have hd48 := ne_of d 48 48 rfl hne
    have e1 := toNat_of (d.toNat - 1) (by omega)
    have es : (str (pat p d k 48)).size = p.length + 1 + k := by rw [size_str, pat_length]
    have eg : (str (pat p (UInt8.ofNat (d.toNat - 1)) k 57)).size = p.length + 1 + k := by rw [size_str, pat_length]
    rw [pat_length] at hn hp
    exact core_down (str (pat p d k 48)) (str (pat p (UInt8.ofNat (d.toNat - 1)) k 57)) (str (oneIn (p.length + 1 + k))) (str (List.replicate (p.length + 1 + k - 1) 48)) w
      (by omega) (by omega) hd h0' (by omega) (by omega)
      ((each_iff _ _).2 (dec_of hpd.1 (by rw [e1]; omega) (by decide)))
      (fun w => zz_down_pat p d (UInt8.ofNat (d.toNat - 1)) k w hpd.2 hd48 (by rw [e1]; omega) (by omega))
      (subs_pat p d _ k hpd.1 (by rw [e1]; omega) hpd.2.2 (by rw [e1]; omega) hn)
      (by rw [es]; exact zer_pred _ hp hn) (size_run _ _ (by omega)) (cat_one _)

theorem go_nines (l : List UInt8) (w : World) (hD : Dec l) (hn : l.length ≤ 65536) (hp : 0 < l.length) (h9 : ∀ b ∈ l, b.toNat = 57) :
    Calls Trym.prog 4 #[.string (str l), .bool false] w fun e w' => e = .returned (.bool true) ∧ Below w.heap.size w w' := by
  have hd : Each (fun n => 48 ≤ n ∧ n ≤ 57) (str l) := (each_iff _ l).2 hD
  have h9' : Each (fun n => n = 57) (str l) := (each_iff _ l).2 h9
  have es : (str l).size = l.length := size_str l
  have e : l = List.replicate l.length 57 := by
    rw [List.eq_replicate_iff]
    exact ⟨rfl, fun b hb => UInt8.toNat_inj.1 (h9 b hb)⟩
  refine core_nines (str l) (str (List.replicate l.length 48)) w (by omega) (by omega) hd h9' ?_ (by rw [es]; exact zer_of _ (by omega)) (size_run _ _ hn)
  intro w
  rw [one_cat]
  have := zz_up_nines l.length w (by omega)
  rwa [← e] at this

set_option maxHeartbeats 400000 in
theorem walk (s : ByteArray) (down : Bool) (w : World) (hm : s.size ≤ maxLen) :
    Calls Trym.prog 4 #[.string s, .bool down] w fun e w' => e = .returned (.bool true) ∧ Below w.heap.size w w' := by
  by_cases c0 : 1048576 < s.size
  · go_enter Trym.func4, Trym.ntmps4
    go_wp2_with fail
    refine (bytes9_no _ _ _ c0 hm).mono ?_
    rintro e w' ⟨rfl, rfl⟩
    go_wp2_with fail
    go_ret
    exact ⟨rfl, Below.refl _ _⟩
  clear hm
  by_cases c1 : 65536 < s.size
  · go_enter Trym.func4, Trym.ntmps4
    go_wp2_with fail
    refine (bytes9_yes _ _ _ (by omega)).mono ?_
    rintro e w' ⟨rfl, rfl⟩
    go_wp2_with fail
    go_ret
    exact ⟨rfl, Below.refl _ _⟩
  by_cases c2 : 0 < s.size ∧ Each (fun n => 48 ≤ n ∧ n ≤ 57) s
  · obtain ⟨hp, hd⟩ := c2
    have hl : s.data.toList.length = s.size := by rw [Array.length_toList]; rfl
    have hD : Dec s.data.toList := by rw [str_self s, each_iff] at hd; exact hd
    cases down
    · by_cases h9 : ∀ b ∈ s.data.toList, b.toNat = 57
      · have := go_nines s.data.toList w hD (by omega) (by omega) h9
        rwa [← str_self] at this
      · have := go_up s.data.toList w hD (by omega) (by omega) h9
        rwa [← str_self] at this
    · by_cases h0 : ∀ b ∈ s.data.toList, b.toNat = 48
      · have h0' : Each (fun n => n = 48) s := by
          rw [str_self s, each_iff]; exact h0
        clear hD h0 hl
        go_enter Trym.func4, Trym.ntmps4
        go_wp2_with fail
        refine (bytes9_yes _ _ _ (by omega)).mono ?_
        rintro e w' ⟨rfl, rfl⟩
        go_wp2_with fail
        refine (allDecimal_yes _ _ (by omega) hp hd).mono ?_
        rintro e w' ⟨rfl, rfl⟩
        go_wp2_with fail
        refine (hasNonzero_all _ _ (by omega) h0').mono ?_
        rintro e w' ⟨rfl, rfl⟩
        go_wp2_with fail
        go_ret
        exact ⟨rfl, Below.refl _ _⟩
      · have := go_down s.data.toList w hD (by omega) (by omega) h0
        rwa [← str_self] at this
  · go_enter Trym.func4, Trym.ntmps4
    go_wp2_with fail
    refine (bytes9_yes _ _ _ (by omega)).mono ?_
    rintro e w' ⟨rfl, rfl⟩
    go_wp2_with fail
    refine (allDecimal_no _ _ (by omega) c2).mono ?_
    rintro e w' ⟨rfl, rfl⟩
    go_wp2_with fail
    go_ret
    exact ⟨rfl, Below.refl _ _⟩
end Go.Proofs.Qxb6603753aMods.StepsWalk
