/- Contracts of 'grown' and of its door 'ZZGrown': the two ways, what fits and what does not. -/
import Derived.Test.Qxb6603173aModsProg
import Derived.WalkKit
import Derived.WalkSpells
import Derived.WalkLawsBesides
import Derived.Laws.CopyOwn
namespace Go.Proofs.Qxb6603173aMods.Grown
open Go.RowKit

theorem addr_add (g o j : Nat) : (⟨g, o, none⟩ : Addr).add j = ⟨g, o + j, none⟩ := by
  unfold Addr.add; split <;> simp_all

theorem info5 : (Trym.prog.info? 5).map (fun i => (i.zero, i.size, i.bytes)) = some (some (.int .u8 0), 1, 1) := by kernel_rfl
theorem size5 : (Trym.prog.info? 5).map (·.size) = some 1 := by kernel_rfl

/-- The new row of n zero bytes. -/
def zeros (n : Nat) : List Value := List.replicate n (.int .u8 0)
def rowZ (n : Nat) : Obj := .cells (zeros n).toArray 5

theorem made_zeros (n : Nat) : madeCells (Value.int .u8 0).cells (n * 1) = (zeros n).toArray := by
  unfold madeCells zeros
  apply Array.ext
  · simp
  · intro i h1 h2
    have : i % 1 = 0 := by omega
    simp [Value.cells, this]

theorem make_run (l c : Nat) (h : l ≤ c) (hc : c ≤ 281474976710656) (w : World) :
    (Instr.makeSlice 27 (.int .i64 l) (.int .i64 c)).run Trym.prog w = .ok (.slice (some ⟨w.heap.size, 0, none⟩) l c) (w.alloc (rowZ c)) := by
  obtain ⟨i0, hi, hz0, hz1, hz2⟩ := info_parts info5
  have := run_make (P := Trym.prog) w 27 5 i0 (.int .u8 0) Trym.underlying27 hi hz0 .i64 .i64 l c (by omega) (by omega) (by rw [hz2]; omega) (by omega)
  rw [this, hz1]
  simp only [Int.toNat_natCast, made_zeros]
  rfl

theorem row_at (w : World) (n : Nat) : (w.alloc (rowZ n)).heap[w.heap.size]? = some (.cells (zeros n).toArray 5 (0, 0)) := by
  show (w.heap.push (rowZ n))[w.heap.size]? = _
  simp [rowZ]

theorem len_zeros (n : Nat) : (zeros n).length = n := by simp [zeros]

/-- The bytes as cells. -/
def cellsOf (z : List Int) : List Value := z.map (Value.int .u8)
theorem len_cellsOf (z : List Int) : (cellsOf z).length = z.length := by simp [cellsOf]
theorem one_cellsOf (z : List Int) : ∀ v ∈ cellsOf z, v.oneCell' = true := by
  intro v hv
  simp only [cellsOf, List.mem_map] at hv
  obtain ⟨a, _, rfl⟩ := hv
  rfl
theorem get_cellsOf (z : List Int) (j : Nat) (v : Value) (h : (cellsOf z)[j]? = some v) : j < z.length ∧ v = .int .u8 (z.getD j 0) := by
  simp only [cellsOf, List.getElem?_map, Option.map_eq_some_iff] at h
  obtain ⟨a, ha, rfl⟩ := h
  have hj : j < z.length := (List.getElem?_eq_some_iff.1 ha).1
  refine ⟨hj, ?_⟩
  rw [List.getD_eq_getElem?_getD, ha]
  rfl

set_option maxHeartbeats 400000 in
theorem grown_fits (g len cap n : Nat) (w : World) (h : n ≤ cap) (_hc : cap ≤ 4611686018427387904) :
    Calls Trym.prog 17 #[.slice (some ⟨g, 0, none⟩) len cap, .int .i64 n] w fun e w' => e = .returned (.slice (some ⟨g, 0, none⟩) n cap) ∧ w' = w := by
  go_enter Trym.func17, Trym.ntmps17
  go_wp2
  go_ret
  exact ⟨rfl, rfl⟩

/-- 'copy(dst, src)' into a row that is known whole, all of src fitting: its run, the world behind it a new name. -/
theorem copy_run (w : World) (g dLen dCap : Nat) (sp : Option Addr) (sLen sCap : Nat) (cur : List Value) (z : List Int)
    (hg : w.heap[g]? = some (.cells cur.toArray 5 (0, 0))) (hn : z.length = sLen) (hs : sLen ≤ dLen)
    (hpos : 0 < sLen → ∃ ad, sp = some ad ∧ ∀ j, j < sLen → w.cell? (ad.add j) = some (.int .u8 (z.getD j 0))) (hfit : sLen ≤ cur.length) :
    ∃ w1, (Builtin.copy_ #[27, 27] 3 #[.slice (some ⟨g, 0, none⟩) dLen dCap, .slice sp sLen sCap]).run Trym.prog w = .ok (.int .i64 sLen) w1 ∧
      w1.heap[g]? = some (.cells (splice cur 0 (cellsOf z)).toArray 5 (0, 0)) ∧ Below g w w1 := by
  have hmin : Nat.min sLen dLen = sLen := Nat.min_eq_left hs
  by_cases h0 : sLen = 0
  · have hz : z = [] := List.eq_nil_of_length_eq_zero (by omega)
    subst hz
    have hr := run_copy_none (P := Trym.prog) w 27 27 3 5 (some ⟨g, 0, none⟩) sp dLen dCap sLen sCap Trym.underlying27 size5 (by rw [hmin]; exact h0)
    refine ⟨w, ?_, ?_, Below.refl _ _⟩
    · rw [hr, h0]; rfl
    · simpa [splice, cellsOf] using hg
  · obtain ⟨ad, rfl, hc⟩ := hpos (by omega)
    have hr := run_copy_row (P := Trym.prog) w 27 27 3 5 g 0 dLen dCap ad sLen sCap cur.toArray 5 (cellsOf z) Trym.underlying27 size5 hg (by rw [len_cellsOf, hmin]; exact hn)
      (fun j v hv => by obtain ⟨hj, rfl⟩ := get_cellsOf z j v hv; exact hc j (by omega)) (by rw [len_cellsOf]; simp; omega) (one_cellsOf z)
    rw [len_cellsOf, hn] at hr
    refine ⟨_, hr, ?_, below_setRow (Below.refl _ _) (Nat.le_refl _) _⟩
    simpa [splice, len_cellsOf, hn] using setRow_heap w g _ _ 5 _ hg

set_option maxHeartbeats 400000 in
theorem grown_new (g len cap n : Nat) (z : List Int) (w : World) (h : cap < n) (hl : len ≤ cap) (hn : n ≤ 65536) (hz : z.length = len)
    (hcell : ∀ i, i < len → w.cell? ⟨g, i, none⟩ = some (.int .u8 (z.getD i 0))) :
    Calls Trym.prog 17 #[.slice (some ⟨g, 0, none⟩) len cap, .int .i64 n] w fun e w' => e = .returned (.slice (some ⟨w.heap.size, 0, none⟩) n n) ∧
      w'.heap[w.heap.size]? = some (.cells (splice (zeros n) 0 (cellsOf z)).toArray 5 (0, 0)) ∧ Below w.heap.size w w' := by
  have hmk := fun w => make_run n n (Nat.le_refl _) (by omega) w
  have HB : Below w.heap.size w (w.alloc (rowZ n)) := (Below.refl _ _).alloc (Nat.le_refl _) _
  obtain ⟨w1, hcp, hg, hb⟩ := copy_run (w.alloc (rowZ n)) w.heap.size n n (some ⟨g, 0, none⟩) len cap (zeros n) z (row_at w n) hz (by omega)
    (fun _ => ⟨_, rfl, fun j hj => by rw [addr_add, Nat.zero_add]; exact cell_later HB (hcell j hj)⟩) (by rw [len_zeros]; omega)
  have HG : Hid (w1.heap[w.heap.size]? = some (.cells (splice (zeros n) 0 (cellsOf z)).toArray 5 (0, 0))) := hg
  have HW : Below w.heap.size w w1 := HB.trans hb
  clear hg hcell hz hb HB
  go_enter Trym.func17, Trym.ntmps17
  go_wp2_with fail
  go_ret
  exact ⟨rfl, HG.out, HW⟩

theorem zz_fits (g len cap n : Nat) (w : World) (h : n ≤ cap) (hc : cap ≤ 4611686018427387904) :
    Calls Trym.prog 13 #[.slice (some ⟨g, 0, none⟩) len cap, .int .i64 n] w fun e w' => e = .returned (.slice (some ⟨g, 0, none⟩) n cap) ∧ w' = w := by
  go_enter Trym.func13, Trym.ntmps13
  go_wp2_with (go_at_call 17; refine (grown_fits _ _ _ _ _ h hc).mono ?_; rintro e w' ⟨rfl, rfl⟩)
  go_ret
  exact ⟨rfl, rfl⟩

theorem zz_new (g len cap n : Nat) (z : List Int) (w : World) (h : cap < n) (hl : len ≤ cap) (hn : n ≤ 65536) (hz : z.length = len)
    (hcell : ∀ i, i < len → w.cell? ⟨g, i, none⟩ = some (.int .u8 (z.getD i 0))) :
    Calls Trym.prog 13 #[.slice (some ⟨g, 0, none⟩) len cap, .int .i64 n] w fun e w' => e = .returned (.slice (some ⟨w.heap.size, 0, none⟩) n n) ∧
      w'.heap[w.heap.size]? = some (.cells (splice (zeros n) 0 (cellsOf z)).toArray 5 (0, 0)) ∧ Below w.heap.size w w' := by
  have HC : Hid (∀ i, i < len → w.cell? ⟨g, i, none⟩ = some (.int .u8 (z.getD i 0))) := hcell
  clear hcell
  have HZ : Hid (z.length = len) := hz
  clear hz
  go_enter Trym.func13, Trym.ntmps13
  go_wp2_with fail
  refine (grown_new g len cap n z _ h hl hn HZ.out HC.out).mono ?_
  rintro e w1 ⟨rfl, hg, hb⟩
  have HG : Hid (w1.heap[w.heap.size]? = some (.cells (splice (zeros n) 0 (cellsOf z)).toArray 5 (0, 0))) := hg
  clear hg
  go_wp2_with fail
  go_ret
  exact ⟨rfl, HG.out, hb⟩
end Go.Proofs.Qxb6603173aMods.Grown
