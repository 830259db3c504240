/- Contracts of zeros and subtractDecimal. -/
import Derived.Test.Qxb6603753aModsAddOne
import Derived.Test.Qxb6603753aModsMem
import Derived.WalkKit
import Derived.WalkSpells
import Derived.WalkLawsBesides
import Derived.Deep.QuietTactic
import Derived.BigQuiet
namespace Go.Proofs.Qxb6603753aMods.Sub
open Go.RowKit
open Go.Proofs.Qxb6603753aMods.Digits
open Go.Proofs.Qxb6603753aMods.AddOne (str size_str string_run byteI_run one_cat ret_str)
open Go.Proofs.Qxb6603753aMods.Mem (rowZ row_at make_run len_zeros)

theorem zero_cell (w : World) (n j : Nat) (h : j < n) : (w.alloc (rowZ n)).cell? ⟨w.heap.size, j, none⟩ = some (.int .u8 0) := by
  have hb := row_at w n
  refine Go.Proofs.Qxb6603753aMods.AddOne.cell_in hb ?_
  simp [Mem.zeros, h]
theorem zero_free (w : World) (n j : Nat) : (w.alloc (rowZ n)).frozen? ⟨w.heap.size, j, none⟩ = false := by
  have hb := row_at w n
  generalize w.alloc (rowZ n) = w1 at hb
  simp [World.frozen?, hb]

/-- The byte at place j while k of them are set. -/
def fill (k j : Nat) : Int := if j < k then 48 else 0
theorem fill_step {wr : World} {g n k : Nat} (hc : ∀ j, j < n → wr.cell? ⟨g, j, none⟩ = some (.int .u8 (fill k j))) (hk : k < n) :
    ∀ j, j < n → (wr.setCell ⟨g, k, none⟩ (.int .u8 48)).cell? ⟨g, j, none⟩ = some (.int .u8 (fill (k + 1) j)) := by
  intro j hj
  by_cases e : j = k
  · subst e
    rw [World.cell?_setCell_same (h := hc j hj)]
    unfold fill; rw [if_pos (by omega)]
  · rw [World.cell?_setCell_other (h := by intro h; injection h with _ h2 _; omega), hc j hj]
    unfold fill
    by_cases c : j < k
    · rw [if_pos c, if_pos (by omega)]
    · rw [if_neg c, if_neg (by omega)]

set_option maxHeartbeats 400000 in
theorem zeros_any (n : Nat) (w : World) (hn : n ≤ 131072) :
    Calls Trym.prog 14 #[.int .i64 n] w fun e w' => e = .returned (.string (str (List.replicate n 48))) ∧ Below w.heap.size w w' := by
  by_cases h0 : n ≤ 0
  · have HE : Hid ((⟨#[]⟩ : ByteArray) = str (List.replicate n 48)) := by
      obtain rfl : n = 0 := by omega
      exact rfl
    go_enter Trym.func14, Trym.ntmps14
    go_wp2_with fail
    go_ret
    exact ⟨ret_str HE.out, Below.refl _ _⟩
  · have hmk := fun w => make_run n n (Nat.le_refl _) (by omega) w
    have HC : Hid (∀ j, j < n → (w.alloc (rowZ n)).cell? ⟨w.heap.size, j, none⟩ = some (.int .u8 (fill 0 j))) := fun j hj => by
      rw [zero_cell w n j hj]; unfold fill; rw [if_neg (by omega)]
    have HF : Hid (∀ j, (w.alloc (rowZ n)).frozen? ⟨w.heap.size, j, none⟩ = false) := fun j => zero_free w n j
    have HB : Below w.heap.size w (w.alloc (rowZ n)) := (Below.refl _ _).alloc (Nat.le_refl _) _
    obtain ⟨R, HR⟩ : ∃ R, Hid (R = str (List.replicate n 48)) := ⟨_, rfl⟩
    go_enter Trym.func14, Trym.ntmps14
    go_wp2_with fail
    go_loopw [4] (fun i wr => ∃ k : Nat, k ≤ n ∧ i = .int .i64 k ∧ Hid (∀ j, j < n → wr.cell? ⟨w.heap.size, j, none⟩ = some (.int .u8 (fill k j))) ∧ Hid (∀ j, wr.frozen? ⟨w.heap.size, j, none⟩ = false) ∧ Below w.heap.size w wr) (fun i _ => n - (intOf i).toNat)
    case atStart => exact ⟨0, Nat.zero_le _, rfl, HC, HF, HB⟩
    case round =>
      obtain ⟨k, hk, rfl, hcr, hfr, hbr⟩ := hrel
      clear hmk HC HF HB
      by_cases hlt : k < n
      · have hck := hcr.out k hlt
        have hfk := hfr.out k
        have HS : Hid (∀ j, j < n → (wr.setCell ⟨w.heap.size, k, none⟩ (.int .u8 48)).cell? ⟨w.heap.size, j, none⟩ = some (.int .u8 (fill (k + 1) j))) := fill_step hcr.out hlt
        go_wp2_with fail
        go_roundw
        case rel => exact ⟨k + 1, by omega, by go_num, HS, fun j => by rw [World.frozen?_setCell]; exact hfr.out j, hbr.setCell (Nat.le_refl _) _⟩
        case measure => simp [intOf]; omega
      · have hsr : (convert 23 9 (.slice (some ⟨w.heap.size, 0, none⟩) n n)).run Trym.prog wr = .ok (.string R) wr := by
          rw [HR.out]
          refine string_run _ _ n _ (fun j hj => ?_) _ (by rw [List.length_replicate])
          rw [List.length_replicate] at hj
          rw [hcr.out j hj, byteI_run n 48 j hj]; unfold fill; rw [if_pos (by omega)]; rfl
        go_wp2_with fail
        go_ret
        exact ⟨ret_str HR.out, hbr⟩

/-- What the two strings are like, byte by byte: equal ahead of place P, one apart there, '0' and '9' behind it. -/
def Apart (A B : ByteArray) (P : Nat) : Prop := ∀ r (ha : r < A.size) (hb : r < B.size), (48 ≤ A[r].toNat ∧ A[r].toNat ≤ 57 ∧ 48 ≤ B[r].toNat ∧ B[r].toNat ≤ 57) ∧
  (P < r → A[r].toNat = 48 ∧ B[r].toNat = 57) ∧ (r = P → A[r].toNat = B[r].toNat + 1) ∧ (r < P → A[r].toNat = B[r].toNat)

/-- The byte at place j of the difference while the places from q on are done. -/
def res (n q j : Nat) : Int := if j < q then 0 else if j + 1 = n then 49 else 48
def bor (P n q : Nat) : Int := if P < q ∧ q < n then 1 else 0
theorem res_step {wr : World} {g n r : Nat} {v : Int} (hc : ∀ j, j < n → wr.cell? ⟨g, j, none⟩ = some (.int .u8 (res n (r + 1) j))) (hr : r < n) (hv : v = if r + 1 = n then 49 else 48) :
    ∀ j, j < n → (wr.setCell ⟨g, r, none⟩ (.int .u8 v)).cell? ⟨g, j, none⟩ = some (.int .u8 (res n r j)) := by
  intro j hj
  by_cases e : j = r
  · subst e
    rw [World.cell?_setCell_same (h := hc j hj), hv]
    unfold res
    rw [if_neg (Nat.lt_irrefl j)]
  · rw [World.cell?_setCell_other (h := by intro h; injection h with _ h2 _; omega), hc j hj]
    unfold res
    by_cases c : j < r
    · rw [if_pos c, if_pos (by omega)]
    · rw [if_neg c, if_neg (by omega)]

/-- The string of the number one in n digits. -/
def oneIn (n : Nat) : List UInt8 := List.replicate (n - 1) 48 ++ [49]
theorem oneIn_length (n : Nat) (h : 0 < n) : (oneIn n).length = n := by simp [oneIn]; omega
theorem oneIn_at (n j : Nat) (h : j < n) : byteI (oneIn n) j = res n 0 j := by
  unfold byteI oneIn res
  rw [if_neg (by omega), List.getD_eq_getElem?_getD, List.getElem?_append, List.length_replicate]
  by_cases c : j + 1 = n
  · rw [if_pos c, if_neg (by omega), show j - (n - 1) = 0 from by omega]; rfl
  · rw [if_neg c, if_pos (by omega), List.getElem?_replicate, if_pos (by omega)]; rfl

set_option maxHeartbeats 1000000 in
theorem sub_any (A B : ByteArray) (P : Nat) (w : World) (hA : A.size ≤ 65536) (hAB1 : A.size ≤ B.size) (hAB2 : B.size ≤ A.size) (hP : P < A.size) (hap : Apart A B P) :
    Calls Trym.prog 15 #[.string A, .string B] w fun e w' => e = .returned (.tuple #[.string (str (oneIn A.size)), .bool true]) ∧ Below w.heap.size w w' := by
  have hmk := fun w => make_run A.size A.size (Nat.le_refl _) (by omega) w
  have HC : Hid (∀ j, j < A.size → (w.alloc (rowZ A.size)).cell? ⟨w.heap.size, j, none⟩ = some (.int .u8 (res A.size A.size j))) := fun j hj => by
    rw [zero_cell w _ j hj]; unfold res; rw [if_pos hj]
  have HF : Hid (∀ j, (w.alloc (rowZ A.size)).frozen? ⟨w.heap.size, j, none⟩ = false) := fun j => zero_free w _ j
  have HB : Below w.heap.size w (w.alloc (rowZ A.size)) := (Below.refl _ _).alloc (Nat.le_refl _) _
  have HAP : Hid (Apart A B P) := hap
  have hne : ((A.size : Int) != (B.size : Int)) = false := by rw [bne_eq_false_iff_eq]; omega
  obtain ⟨R, HR⟩ : ∃ R, Hid (R = str (oneIn A.size)) := ⟨_, rfl⟩
  clear hap
  go_enter Trym.func15, Trym.ntmps15
  go_wp2_with fail
  go_loopw [7, 8] (fun b i wr => ∃ (q : Nat) (bo : Int), q ≤ A.size ∧ i = .int .i64 ((q : Int) - 1) ∧ b = .int .i64 bo ∧ Hid (bo = bor P A.size q) ∧
      Hid (∀ j, j < A.size → wr.cell? ⟨w.heap.size, j, none⟩ = some (.int .u8 (res A.size q j))) ∧ Hid (∀ j, wr.frozen? ⟨w.heap.size, j, none⟩ = false) ∧ Below w.heap.size w wr) (fun _ i _ => (intOf i + 1).toNat)
  case atStart => exact ⟨A.size, 0, Nat.le_refl _, by go_num, rfl, by show (0 : Int) = _; unfold bor; rw [if_neg (by omega)], HC, HF, HB⟩
  case round =>
    obtain ⟨q, bo, hq, hi, rfl, HBO, hcr, hfr, hbr⟩ := hrel
    clear hmk HC HF HB
    by_cases h0 : q = 0
    · have hi' : u8 = .int .i64 (-1) := by rw [hi, h0]; rfl
      clear hi
      subst hi'
      have hsr : (convert 23 9 (.slice (some ⟨w.heap.size, 0, none⟩) A.size A.size)).run Trym.prog wr = .ok (.string R) wr := by
        rw [HR.out]
        refine string_run _ _ A.size _ (fun j hj => ?_) _ (by rw [oneIn_length _ (by omega)])
        rw [oneIn_length _ (by omega)] at hj
        rw [hcr.out j hj, oneIn_at _ _ hj, h0]
      have hb0 : (bo == 0) = true := by rw [HBO.out]; unfold bor; rw [if_neg (by omega)]; rfl
      clear h0
      go_wp2_with fail
      go_ret2
      exact ⟨by rw [HR.out]; rfl, hbr⟩
    · obtain ⟨r, rfl⟩ : ∃ r, q = r + 1 := ⟨q - 1, by omega⟩
      have hi' : u8 = .int .i64 (r : Int) := by rw [hi]; go_num
      clear hi h0
      subst hi'
      have hfk := hfr.out r
      have hck := hcr.out r (by omega)
      have hrA : r < A.size := by omega
      have hrB : r < B.size := by omega
      have hap := HAP.out r hrA hrB
      obtain ⟨av, hav⟩ : ∃ av : Nat, A[r].toNat = av := ⟨_, rfl⟩
      obtain ⟨bv, hbv⟩ : ∃ bv : Nat, B[r].toNat = bv := ⟨_, rfl⟩
      rw [hav, hbv] at hap
      obtain ⟨hbd, hx1, hx2, hx3⟩ := hap
      have hbo : 0 ≤ bo ∧ bo ≤ 1 := by rw [HBO.out]; unfold bor; split <;> omega
      clear hne
      by_cases hgt : P < r
      · have f1 : av ≤ 48 := by have := hx1 hgt; omega
        have f2 : 57 ≤ bv := by have := hx1 hgt; omega
        clear hx1 hx2 hx3
        have HV : Hid (48 + ((av : Int) - 48 - ((bv : Int) - 48) - bo + 10) = if r + 1 = A.size then 49 else 48) := by
          show _ = _
          rw [HBO.out]; unfold bor
          by_cases e : r + 1 = A.size
          · rw [if_neg (by omega), if_pos e]; omega
          · rw [if_pos (by omega), if_neg e]; omega
        have HBN : Hid ((1 : Int) = bor P A.size r) := by show _ = _; unfold bor; rw [if_pos (by omega)]
        go_wp2_with fail
        go_quiet (fail)
        go_wp2_with fail
        go_roundw
        case rel => exact ⟨r, _, by omega, rfl, rfl, HBN, res_step (wr := wr.drewN nq) hcr.out hrA HV.out, fun j => by rw [World.frozen?_setCell]; exact hfr.out j, (below_drewN hbr nq).setCell (Nat.le_refl _) _⟩
        case measure => simp [intOf]
      · have hx : (av : Int) - 48 - ((bv : Int) - 48) - bo = (if r + 1 = A.size then 1 else 0) := by
          rw [HBO.out]; unfold bor
          by_cases c : r = P
          · have := hx2 c
            by_cases e : r + 1 = A.size
            · rw [if_neg (by omega), if_pos e]; omega
            · rw [if_pos (by omega), if_neg e]; omega
          · have := hx3 (by omega)
            rw [if_neg (by omega), if_neg (by omega)]; omega
        have hxp : 0 ≤ (av : Int) - 48 - ((bv : Int) - 48) - bo := by rw [hx]; split <;> omega
        have hxq : (av : Int) - 48 - ((bv : Int) - 48) - bo ≤ 1 := by rw [hx]; split <;> omega
        have HV : Hid (48 + ((av : Int) - 48 - ((bv : Int) - 48) - bo) = if r + 1 = A.size then 49 else 48) := by
          show _ = _
          rw [hx]; split <;> rfl
        have HBN : Hid ((0 : Int) = bor P A.size r) := by show _ = _; unfold bor; rw [if_neg (by omega)]
        clear hx1 hx2 hx3 hx
        go_wp2_with fail
        go_quiet (fail)
        go_wp2_with fail
        go_roundw
        case rel => exact ⟨r, _, by omega, rfl, rfl, HBN, res_step (wr := wr.drewN nq) hcr.out hrA HV.out, fun j => by rw [World.frozen?_setCell]; exact hfr.out j, (below_drewN hbr nq).setCell (Nat.le_refl _) _⟩
        case measure => simp [intOf]
end Go.Proofs.Qxb6603753aMods.Sub
