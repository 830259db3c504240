/- Contracts of addOne and of its door ZZaddOne, over digit patterns. -/
import Derived.Test.Qxb6603753aModsProg
import Derived.Test.Qxb6603753aModsDigits
import Derived.WalkKit
import Derived.WalkSpells
import Derived.WalkLawsBesides
import Derived.Laws.IdiomStrings
namespace Go.Proofs.Qxb6603753aMods.AddOne
open Go.RowKit
open Go.Proofs.Qxb6603753aMods.Digits

theorem ret_str {a b : ByteArray} (h : a = b) : Ending.returned (.string a) = .returned (.string b) := by rw [h]
theorem addr_add (g o j : Nat) : (⟨g, o, none⟩ : Addr).add j = ⟨g, o + j, none⟩ := by
  unfold Addr.add; split <;> simp_all

/-- A string of given bytes. -/
def str (l : List UInt8) : ByteArray := ⟨l.toArray⟩
theorem size_str (l : List UInt8) : (str l).size = l.length := by simp [str, ByteArray.size]

theorem cell_in {w : World} {g : Nat} {C : Array Value} {t : TypeId} {fr : Nat × Nat} (hb : w.heap[g]? = some (.cells C t fr)) {j : Nat} {v : Value} (e : C[j]? = some v) : w.cell? ⟨g, j, none⟩ = some v := by
  simp [World.cell?, hb, e]
theorem free_in {w : World} {g : Nat} {C : Array Value} {t : TypeId} {a b : Nat} (hb : w.heap[g]? = some (.cells C t (a, b))) {j : Nat} (h : j < a) : w.frozen? ⟨g, j, none⟩ = false := by
  simp [World.frozen?, hb]
  omega

/-- '[]byte(s)': a new row of the bytes of s; the world behind it a new name. -/
theorem bytes_run (w : World) (l : List UInt8) :
    ∃ w1 cap, (convert 9 23 (.string (str l))).run Trym.prog w = .ok (.slice (some ⟨w.heap.size, 0, none⟩) l.length cap) w1 ∧
      (∀ j, j < l.length → w1.cell? ⟨w.heap.size, j, none⟩ = some (.int .u8 (byteI l j))) ∧ (∀ j, j < l.length → w1.frozen? ⟨w.heap.size, j, none⟩ = false) ∧
      Below w.heap.size w w1 ∧ w.heap.size < w1.heap.size := by
  have hr := run_bytes_of_string (P := Trym.prog) w 9 23 5 (str l) Trym.underlying9 Trym.underlying23 Trym.underlying5
  rw [size_str] at hr
  generalize grownCap w l.length 0 5 = cap at hr
  have hat : ∀ (C : Array Value) (fr : Nat × Nat), (w.drew.alloc (.cells C 5 fr)).heap[w.heap.size]? = some (.cells C 5 fr) := fun C fr => by
    show (w.heap.push (.cells C 5 fr))[w.heap.size]? = _
    simp
  have hb := hat (bytesRow (str l) cap) ((bytesRow (str l) cap).size, (bytesRow (str l) cap).size + 1)
  refine ⟨_, cap, hr, fun j hj => ?_, fun j hj => ?_, (Below.refl _ _).drew.alloc (Nat.le_refl _) _, by simp⟩
  · have e : (bytesRow (str l) cap)[j]? = some (.int .u8 (byteI l j)) := by
      unfold bytesRow byteI
      rw [Array.getElem?_append_left (by simp [str]; omega)]
      simp [str, hj]
    exact cell_in hb e
  · have hs : j < (bytesRow (str l) cap).size := by simp [bytesRow, str]; omega
    exact free_in hb hs

/-- 'string(b)' of a row that holds the bytes l. -/
theorem string_run (w : World) (g cap : Nat) (l : List UInt8) (hc : ∀ j, j < l.length → w.cell? ⟨g, j, none⟩ = some (.int .u8 (byteI l j))) (n : Nat) (hn : n = l.length) :
    (convert 23 9 (.slice (some ⟨g, 0, none⟩) n cap)).run Trym.prog w = .ok (.string (str l)) w := by
  subst hn
  exact run_convert_bytes_back (P := Trym.prog) w 23 9 5 ⟨g, 0, none⟩ cap l Trym.underlying23 Trym.underlying5 Trym.underlying9 (fun j hj => by
    rw [addr_add, Nat.zero_add, hc j hj]
    unfold byteI
    rw [List.getD_eq_getElem?_getD, List.getElem?_eq_getElem hj]
    rfl)

/-- The byte at place j while the carry stands at place q: behind q the run is turned to y. -/
def mid (l : List UInt8) (y : Int) (q j : Nat) : Int := if j ≤ q then byteI l j else y
theorem mid_at (l : List UInt8) (y : Int) (q : Nat) : mid l y q q = byteI l q := by unfold mid; rw [if_pos (Nat.le_refl _)]
theorem mid_step {wr : World} {g n q : Nat} {l : List UInt8} {y : Int} (hc : ∀ j, j < n → wr.cell? ⟨g, j, none⟩ = some (.int .u8 (mid l y q j))) (hq : q < n) (h0 : 0 < q) :
    ∀ j, j < n → (wr.setCell ⟨g, q, none⟩ (.int .u8 y)).cell? ⟨g, j, none⟩ = some (.int .u8 (mid l y (q - 1) j)) := by
  intro j hj
  by_cases e : j = q
  · subst e
    rw [World.cell?_setCell_same (h := hc j hj)]
    unfold mid; rw [if_neg (by omega)]
  · rw [World.cell?_setCell_other (h := by intro h; injection h with _ h2 _; omega), hc j hj]
    unfold mid
    by_cases c : j ≤ q
    · rw [if_pos c, if_pos (by omega)]
    · rw [if_neg c, if_neg (by omega)]
theorem pat_done {wr : World} {g q n : Nat} {p : List UInt8} {d d' x y : UInt8} {k : Nat} {yv v : Int} (hp : p.length = q) (hn : p.length + 1 + k = n) (hy : yv = y.toNat) (hv : v = d'.toNat)
    (hc : ∀ j, j < n → wr.cell? ⟨g, j, none⟩ = some (.int .u8 (mid (pat p d k x) yv q j))) :
    ∀ j, j < (pat p d' k y).length → (wr.setCell ⟨g, q, none⟩ (.int .u8 v)).cell? ⟨g, j, none⟩ = some (.int .u8 (byteI (pat p d' k y) j)) := by
  intro j hj
  rw [pat_length, hn] at hj
  by_cases e : j = q
  · subst e
    rw [World.cell?_setCell_same (h := hc _ hj), hv, ← hp, pat_mid]
  · rw [World.cell?_setCell_other (h := by intro h; injection h with _ h2 _; omega), hc j hj]
    unfold mid
    by_cases c : j ≤ q
    · rw [if_pos c, pat_low _ _ _ _ _ (by omega), pat_low _ _ _ _ _ (by omega)]
    · rw [if_neg c, pat_high _ _ _ _ _ (by omega) (by omega), hy]

set_option maxHeartbeats 400000 in
theorem up_pat (p : List UInt8) (d d' : UInt8) (k : Nat) (w : World) (hd : 48 ≤ d.toNat ∧ d.toNat ≤ 57) (hne : d.toNat ≠ 57) (hd' : (d'.toNat : Int) = (d.toNat : Int) + 1) (hn : p.length + 1 + k ≤ 131072) :
    Calls Trym.prog 18 #[.string (str (pat p d k 57)), .bool false] w fun e w' => e = .returned (.string (str (pat p d' k 48))) ∧ Below w.heap.size w w' := by
  obtain ⟨w1, cap, hcv, hc1, hf1, hb1, hs1⟩ := bytes_run w (pat p d k 57)
  rw [pat_length] at hcv hc1 hf1
  have HC1 : Hid (∀ j, j < p.length + 1 + k → w1.cell? ⟨w.heap.size, j, none⟩ = some (.int .u8 (byteI (pat p d k 57) j))) := hc1
  have HF1 : Hid (∀ j, j < p.length + 1 + k → w1.frozen? ⟨w.heap.size, j, none⟩ = false) := hf1
  have HD' : Hid ((d'.toNat : Int) = (d.toNat : Int) + 1) := hd'
  clear hc1 hf1 hd'
  obtain ⟨P, HP⟩ : ∃ P, Hid (p.length = P) := ⟨_, rfl⟩
  have hPn : P + 1 + k ≤ 131072 := by rw [← HP.out]; exact hn
  rw [HP.out] at hcv
  clear hn
  go_enter Trym.func18, Trym.ntmps18
  go_wp2_with fail
  go_loopw [6] (fun i wr => ∃ q : Nat, P ≤ q ∧ q ≤ P + k ∧ i = .int .i64 q ∧ Hid (∀ j, j < P + 1 + k → wr.cell? ⟨w.heap.size, j, none⟩ = some (.int .u8 (mid (pat p d k 57) 48 q j))) ∧
      Hid (∀ j, j < P + 1 + k → wr.frozen? ⟨w.heap.size, j, none⟩ = false) ∧ Below w.heap.size w wr) (fun i _ => (intOf i).toNat)
  case atStart =>
    refine ⟨P + k, by omega, by omega, by go_num, fun j hj => ?_, fun j hj => HF1.out j (by have := HP.out; omega), hb1⟩
    rw [HC1.out j (by have := HP.out; omega)]; unfold mid; rw [if_pos (by omega)]
  case round =>
    obtain ⟨q, hq1, hq2, rfl, hcr, hfr, hbr⟩ := hrel
    clear hcv
    have hfk := hfr.out q (by omega)
    by_cases hq : q = P
    · have hck : wr.cell? ⟨w.heap.size, q, none⟩ = some (.int .u8 (d.toNat : Int)) := by
        rw [hcr.out q (by omega), mid_at, hq, ← HP.out, pat_mid]
      have hb : ((d.toNat : Int) == 57) = false := by simp; omega
      have hsr : (convert 23 9 (.slice (some ⟨w.heap.size, 0, none⟩) (P + 1 + k) cap)).run Trym.prog (wr.setCell ⟨w.heap.size, q, none⟩ (.int .u8 ((d.toNat : Int) + 1))) =
          .ok (.string (str (pat p d' k 48))) (wr.setCell ⟨w.heap.size, q, none⟩ (.int .u8 ((d.toNat : Int) + 1))) := by
        refine string_run _ _ cap _ ?_ _ (by rw [pat_length, HP.out])
        exact pat_done (HP.out.trans hq.symm) (by rw [HP.out]) rfl HD'.out.symm hcr.out
      have HR : Below w.heap.size w (wr.setCell ⟨w.heap.size, q, none⟩ (.int .u8 ((d.toNat : Int) + 1))) := hbr.setCell (Nat.le_refl _) _
      clear hq
      go_wp2_with fail
      go_ret
      exact ⟨rfl, HR⟩
    · have hck : wr.cell? ⟨w.heap.size, q, none⟩ = some (.int .u8 57) := by
        rw [hcr.out q (by omega), mid_at, pat_high _ _ _ _ _ (by have := HP.out; omega) (by have := HP.out; omega)]; rfl
      have HS : Hid (∀ j, j < P + 1 + k → (wr.setCell ⟨w.heap.size, q, none⟩ (.int .u8 48)).cell? ⟨w.heap.size, j, none⟩ = some (.int .u8 (mid (pat p d k 57) 48 (q - 1) j))) := mid_step hcr.out (by omega) (by omega)
      go_wp2_with fail
      go_roundw
      case rel => exact ⟨q - 1, by omega, by omega, by go_num, HS, fun j hj => by rw [World.frozen?_setCell]; exact hfr.out j hj, hbr.setCell (Nat.le_refl _) _⟩
      case measure => simp [intOf]; omega

set_option maxHeartbeats 400000 in
theorem down_pat (p : List UInt8) (d d' : UInt8) (k : Nat) (w : World) (hd : 48 ≤ d.toNat ∧ d.toNat ≤ 57) (hne : d.toNat ≠ 48) (hd' : (d'.toNat : Int) = (d.toNat : Int) - 1) (hn : p.length + 1 + k ≤ 131072) :
    Calls Trym.prog 18 #[.string (str (pat p d k 48)), .bool true] w fun e w' => e = .returned (.string (str (pat p d' k 57))) ∧ Below w.heap.size w w' := by
  obtain ⟨w1, cap, hcv, hc1, hf1, hb1, hs1⟩ := bytes_run w (pat p d k 48)
  rw [pat_length] at hcv hc1 hf1
  have HC1 : Hid (∀ j, j < p.length + 1 + k → w1.cell? ⟨w.heap.size, j, none⟩ = some (.int .u8 (byteI (pat p d k 48) j))) := hc1
  have HF1 : Hid (∀ j, j < p.length + 1 + k → w1.frozen? ⟨w.heap.size, j, none⟩ = false) := hf1
  have HD' : Hid ((d'.toNat : Int) = (d.toNat : Int) - 1) := hd'
  clear hc1 hf1 hd'
  obtain ⟨P, HP⟩ : ∃ P, Hid (p.length = P) := ⟨_, rfl⟩
  have hPn : P + 1 + k ≤ 131072 := by rw [← HP.out]; exact hn
  rw [HP.out] at hcv
  clear hn
  go_enter Trym.func18, Trym.ntmps18
  go_wp2_with fail
  go_loopw [6] (fun i wr => ∃ q : Nat, P ≤ q ∧ q ≤ P + k ∧ i = .int .i64 q ∧ Hid (∀ j, j < P + 1 + k → wr.cell? ⟨w.heap.size, j, none⟩ = some (.int .u8 (mid (pat p d k 48) 57 q j))) ∧
      Hid (∀ j, j < P + 1 + k → wr.frozen? ⟨w.heap.size, j, none⟩ = false) ∧ Below w.heap.size w wr) (fun i _ => (intOf i).toNat)
  case atStart =>
    refine ⟨P + k, by omega, by omega, by go_num, fun j hj => ?_, fun j hj => HF1.out j (by have := HP.out; omega), hb1⟩
    rw [HC1.out j (by have := HP.out; omega)]; unfold mid; rw [if_pos (by omega)]
  case round =>
    obtain ⟨q, hq1, hq2, rfl, hcr, hfr, hbr⟩ := hrel
    clear hcv
    have hfk := hfr.out q (by omega)
    by_cases hq : q = P
    · have hck : wr.cell? ⟨w.heap.size, q, none⟩ = some (.int .u8 (d.toNat : Int)) := by
        rw [hcr.out q (by omega), mid_at, hq, ← HP.out, pat_mid]
      have hb : ((d.toNat : Int) == 48) = false := by simp; omega
      have hsr : (convert 23 9 (.slice (some ⟨w.heap.size, 0, none⟩) (P + 1 + k) cap)).run Trym.prog (wr.setCell ⟨w.heap.size, q, none⟩ (.int .u8 ((d.toNat : Int) - 1))) =
          .ok (.string (str (pat p d' k 57))) (wr.setCell ⟨w.heap.size, q, none⟩ (.int .u8 ((d.toNat : Int) - 1))) := by
        refine string_run _ _ cap _ ?_ _ (by rw [pat_length, HP.out])
        exact pat_done (HP.out.trans hq.symm) (by rw [HP.out]) rfl HD'.out.symm hcr.out
      have HR : Below w.heap.size w (wr.setCell ⟨w.heap.size, q, none⟩ (.int .u8 ((d.toNat : Int) - 1))) := hbr.setCell (Nat.le_refl _) _
      clear hq
      go_wp2_with fail
      go_ret
      exact ⟨rfl, HR⟩
    · have hck : wr.cell? ⟨w.heap.size, q, none⟩ = some (.int .u8 48) := by
        rw [hcr.out q (by omega), mid_at, pat_high _ _ _ _ _ (by have := HP.out; omega) (by have := HP.out; omega)]; rfl
      have HS : Hid (∀ j, j < P + 1 + k → (wr.setCell ⟨w.heap.size, q, none⟩ (.int .u8 57)).cell? ⟨w.heap.size, j, none⟩ = some (.int .u8 (mid (pat p d k 48) 57 (q - 1) j))) := mid_step hcr.out (by omega) (by omega)
      go_wp2_with fail
      go_roundw
      case rel => exact ⟨q - 1, by omega, by omega, by go_num, HS, fun j hj => by rw [World.frozen?_setCell]; exact hfr.out j hj, hbr.setCell (Nat.le_refl _) _⟩
      case measure => simp [intOf]; omega

/-- The byte at place j of a run of nines, the last of them turned to noughts. -/
def nine (q j : Nat) : Int := if j < q then 57 else 48
theorem nine_step {wr : World} {g n r : Nat} (hc : ∀ j, j < n → wr.cell? ⟨g, j, none⟩ = some (.int .u8 (nine (r + 1) j))) (hr : r < n) :
    ∀ j, j < n → (wr.setCell ⟨g, r, none⟩ (.int .u8 48)).cell? ⟨g, j, none⟩ = some (.int .u8 (nine r j)) := by
  intro j hj
  by_cases e : j = r
  · subst e
    rw [World.cell?_setCell_same (h := hc j hj)]
    unfold nine; rw [if_neg (by omega)]
  · rw [World.cell?_setCell_other (h := by intro h; injection h with _ h2 _; omega), hc j hj]
    unfold nine
    by_cases c : j < r
    · rw [if_pos c, if_pos (by omega)]
    · rw [if_neg c, if_neg (by omega)]
theorem byteI_run (n : Nat) (x : UInt8) (j : Nat) (h : j < n) : byteI (List.replicate n x) j = x.toNat := by
  unfold byteI
  rw [List.getD_eq_getElem?_getD, List.getElem?_replicate, if_pos h]
  rfl
theorem one_cat (l : List UInt8) (x : UInt8) : (⟨#[x]⟩ : ByteArray) ++ str l = str (x :: l) := by
  apply ByteArray.ext
  rw [ByteArray.data_append]
  simp [str]

set_option maxHeartbeats 400000 in
theorem up_nines (n : Nat) (w : World) (hn : n ≤ 131072) :
    Calls Trym.prog 18 #[.string (str (List.replicate n 57)), .bool false] w fun e w' => e = .returned (.string (str (49 :: List.replicate n 48))) ∧ Below w.heap.size w w' := by
  obtain ⟨w1, cap, hcv, hc1, hf1, hb1, hs1⟩ := bytes_run w (List.replicate n 57)
  rw [List.length_replicate] at hcv hc1 hf1
  have HC1 : Hid (∀ j, j < n → w1.cell? ⟨w.heap.size, j, none⟩ = some (.int .u8 (nine n j))) := fun j hj => by
    rw [hc1 j hj, byteI_run n 57 j hj]; unfold nine; rw [if_pos hj]; rfl
  have HF1 : Hid (∀ j, j < n → w1.frozen? ⟨w.heap.size, j, none⟩ = false) := hf1
  clear hc1 hf1
  obtain ⟨A, HA⟩ : ∃ A, Hid (A = str (List.replicate n 57)) := ⟨_, rfl⟩
  obtain ⟨R, HR⟩ : ∃ R, Hid (R = str (List.replicate n 48)) := ⟨_, rfl⟩
  have hRs : R.size ≤ 131072 := by rw [HR.out, size_str, List.length_replicate]; exact hn
  rw [← HA.out] at hcv ⊢
  go_enter Trym.func18, Trym.ntmps18
  go_wp2_with fail
  go_loopw [6] (fun i wr => ∃ q : Nat, q ≤ n ∧ i = .int .i64 ((q : Int) - 1) ∧ Hid (∀ j, j < n → wr.cell? ⟨w.heap.size, j, none⟩ = some (.int .u8 (nine q j))) ∧
      Hid (∀ j, j < n → wr.frozen? ⟨w.heap.size, j, none⟩ = false) ∧ Below w.heap.size w wr) (fun i _ => (intOf i + 1).toNat)
  case atStart => exact ⟨n, Nat.le_refl _, by go_num, HC1, HF1, hb1⟩
  case round =>
    obtain ⟨q, hq, hi, hcr, hfr, hbr⟩ := hrel
    clear hcv
    by_cases h0 : q = 0
    · have hi' : u6 = .int .i64 (-1) := by rw [hi, h0]; rfl
      clear hi
      subst hi'
      have hsr : (convert 23 9 (.slice (some ⟨w.heap.size, 0, none⟩) n cap)).run Trym.prog wr = .ok (.string R) wr := by
        rw [HR.out]
        refine string_run _ _ cap _ (fun j hj => ?_) _ (by rw [List.length_replicate])
        rw [List.length_replicate] at hj
        rw [hcr.out j hj, byteI_run n 48 j hj, h0]; unfold nine; rw [if_neg (by omega)]; rfl
      clear h0
      go_wp2_with fail
      go_ret
      exact ⟨ret_str (by rw [HR.out]; exact one_cat _ _), hbr⟩
    · obtain ⟨r, rfl⟩ : ∃ r, q = r + 1 := ⟨q - 1, by omega⟩
      have hi' : u6 = .int .i64 (r : Int) := by rw [hi]; go_num
      clear hi h0
      subst hi'
      have hfk := hfr.out r (by omega)
      have hck : wr.cell? ⟨w.heap.size, r, none⟩ = some (.int .u8 57) := by
        rw [hcr.out r (by omega)]; unfold nine; rw [if_pos (by omega)]
      have HS : Hid (∀ j, j < n → (wr.setCell ⟨w.heap.size, r, none⟩ (.int .u8 48)).cell? ⟨w.heap.size, j, none⟩ = some (.int .u8 (nine r j))) := nine_step hcr.out (by omega)
      go_wp2_with fail
      go_roundw
      case rel => exact ⟨r, by omega, rfl, HS, fun j hj => by rw [World.frozen?_setCell]; exact hfr.out j hj, hbr.setCell (Nat.le_refl _) _⟩
      case measure => simp [intOf]

theorem door (s r : ByteArray) (b : Bool) (w : World) (h : ∀ w : World, Calls Trym.prog 18 #[.string s, .bool b] w fun e w' => e = .returned (.string r) ∧ Below w.heap.size w w') :
    Calls Trym.prog 12 #[.string s, .bool b] w fun e w' => e = .returned (.string r) ∧ Below w.heap.size w w' := by
  have H : Hid (∀ w : World, Calls Trym.prog 18 #[.string s, .bool b] w fun e w' => e = .returned (.string r) ∧ Below w.heap.size w w') := h
  clear h
  go_enter Trym.func12, Trym.ntmps12
  go_wp2_with fail
  refine (H.out _).mono ?_
  rintro e w1 ⟨rfl, hb⟩
  go_wp2_with fail
  go_ret
  exact ⟨rfl, hb⟩
theorem zz_up_pat (p : List UInt8) (d d' : UInt8) (k : Nat) (w : World) (hd : 48 ≤ d.toNat ∧ d.toNat ≤ 57) (hne : d.toNat ≠ 57) (hd' : (d'.toNat : Int) = (d.toNat : Int) + 1) (hn : p.length + 1 + k ≤ 131072) :
    Calls Trym.prog 12 #[.string (str (pat p d k 57)), .bool false] w fun e w' => e = .returned (.string (str (pat p d' k 48))) ∧ Below w.heap.size w w' :=
  door _ _ _ _ (fun w => up_pat p d d' k w hd hne hd' hn)
theorem zz_down_pat (p : List UInt8) (d d' : UInt8) (k : Nat) (w : World) (hd : 48 ≤ d.toNat ∧ d.toNat ≤ 57) (hne : d.toNat ≠ 48) (hd' : (d'.toNat : Int) = (d.toNat : Int) - 1) (hn : p.length + 1 + k ≤ 131072) :
    Calls Trym.prog 12 #[.string (str (pat p d k 48)), .bool true] w fun e w' => e = .returned (.string (str (pat p d' k 57))) ∧ Below w.heap.size w w' :=
  door _ _ _ _ (fun w => down_pat p d d' k w hd hne hd' hn)
theorem zz_up_nines (n : Nat) (w : World) (hn : n ≤ 131072) :
    Calls Trym.prog 12 #[.string (str (List.replicate n 57)), .bool false] w fun e w' => e = .returned (.string (str (49 :: List.replicate n 48))) ∧ Below w.heap.size w w' :=
  door _ _ _ _ (fun w => up_nines n w hn)
end Go.Proofs.Qxb6603753aMods.AddOne
