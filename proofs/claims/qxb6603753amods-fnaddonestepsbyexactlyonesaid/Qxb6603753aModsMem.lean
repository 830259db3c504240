/- Memory that the calls themselves make: new rows of zero bytes, copies into them. -/
import Derived.Test.Qxb6603753aModsProg
import Derived.WalkKit
import Derived.WalkSpells
import Derived.WalkLawsBesides
import Derived.Laws.CopyOwn
namespace Go.Proofs.Qxb6603753aMods.Mem
open Go.RowKit

theorem addr_add (g o j : Nat) : (⟨g, o, none⟩ : Addr).add j = ⟨g, o + j, none⟩ := by
  unfold Addr.add; split <;> simp_all

theorem info5 : (Trym.prog.info? 5).map (fun i => (i.zero, i.size, i.bytes)) = some (some (.int .u8 0), 1, 1) := by kernel_rfl
theorem size5 : (Trym.prog.info? 5).map (·.size) = some 1 := by kernel_rfl

/-- The new row of n zero bytes. -/
def zeros (n : Nat) : List Value := List.replicate n (.int .u8 0)
def rowZ (n : Nat) : Obj := .cells (zeros n).toArray 5

theorem made_zeros (n : Nat) : madeCells (Value.int .u8 0).cells (n * 1) = (zeros n).toArray := by
  unfold madeCells zeros
  apply Array.ext
  · simp
  · intro i h1 h2
    have : i % 1 = 0 := by omega
    simp [Value.cells, this]

theorem make_run (l c : Nat) (h : l ≤ c) (hc : c ≤ 281474976710656) (w : World) :
    (Instr.makeSlice 23 (.int .i64 l) (.int .i64 c)).run Trym.prog w = .ok (.slice (some ⟨w.heap.size, 0, none⟩) l c) (w.alloc (rowZ c)) := by
  obtain ⟨i0, hi, hz0, hz1, hz2⟩ := info_parts info5
  have := run_make (P := Trym.prog) w 23 5 i0 (.int .u8 0) Trym.underlying23 hi hz0 .i64 .i64 l c (by omega) (by omega) (by rw [hz2]; omega) (by omega)
  rw [this, hz1]
  simp only [Int.toNat_natCast, made_zeros]
  rfl

theorem row_at (w : World) (n : Nat) : (w.alloc (rowZ n)).heap[w.heap.size]? = some (.cells (zeros n).toArray 5 (0, 0)) := by
  show (w.heap.push (rowZ n))[w.heap.size]? = _
  simp [rowZ]

theorem len_zeros (n : Nat) : (zeros n).length = n := by simp [zeros]

/-- The bytes as cells. -/
def cellsOf (z : List Int) : List Value := z.map (Value.int .u8)
theorem len_cellsOf (z : List Int) : (cellsOf z).length = z.length := by simp [cellsOf]
theorem one_cellsOf (z : List Int) : ∀ v ∈ cellsOf z, v.oneCell' = true := by
  intro v hv
  simp only [cellsOf, List.mem_map] at hv
  obtain ⟨a, _, rfl⟩ := hv
  rfl
theorem get_cellsOf (z : List Int) (j : Nat) (v : Value) (h : (cellsOf z)[j]? = some v) : j < z.length ∧ v = .int .u8 (z.getD j 0) := by
  simp only [cellsOf, List.getElem?_map, Option.map_eq_some_iff] at h
  obtain ⟨a, ha, rfl⟩ := h
  have hj : j < z.length := (List.getElem?_eq_some_iff.1 ha).1
  refine ⟨hj, ?_⟩
  rw [List.getD_eq_getElem?_getD, ha]
  rfl
theorem cellsOf_get (z : List Int) (j : Nat) (h : j < z.length) : (cellsOf z)[j]? = some (.int .u8 (z.getD j 0)) := by
  rw [cellsOf, List.getElem?_map, List.getElem?_eq_getElem h, List.getD_eq_getElem?_getD, List.getElem?_eq_getElem h]
  rfl
theorem cellsOf_append (a b : List Int) : cellsOf (a ++ b) = cellsOf a ++ cellsOf b := by simp [cellsOf]

/-- 'copy(dst, src)' into a row that is known whole, all of src fitting: its run, the world behind it a new name. -/
theorem copy_run (w : World) (g dLen dCap : Nat) (sp : Option Addr) (sLen sCap : Nat) (cur : List Value) (z : List Int)
    (hg : w.heap[g]? = some (.cells cur.toArray 5 (0, 0))) (hn : z.length = sLen) (hs : sLen ≤ dLen)
    (hpos : 0 < sLen → ∃ ad, sp = some ad ∧ ∀ j, j < sLen → w.cell? (ad.add j) = some (.int .u8 (z.getD j 0))) (hfit : sLen ≤ cur.length) :
    ∃ w1, (Builtin.copy_ #[23, 23] 3 #[.slice (some ⟨g, 0, none⟩) dLen dCap, .slice sp sLen sCap]).run Trym.prog w = .ok (.int .i64 sLen) w1 ∧
      w1.heap[g]? = some (.cells (splice cur 0 (cellsOf z)).toArray 5 (0, 0)) ∧ Below g w w1 := by
  have hmin : Nat.min sLen dLen = sLen := Nat.min_eq_left hs
  by_cases h0 : sLen = 0
  · have hz : z = [] := List.eq_nil_of_length_eq_zero (by omega)
    subst hz
    have hr := run_copy_none (P := Trym.prog) w 23 23 3 5 (some ⟨g, 0, none⟩) sp dLen dCap sLen sCap Trym.underlying23 size5 (by rw [hmin]; exact h0)
    refine ⟨w, ?_, ?_, Below.refl _ _⟩
    · rw [hr, h0]; rfl
    · simpa [splice, cellsOf] using hg
  · obtain ⟨ad, rfl, hc⟩ := hpos (by omega)
    have hr := run_copy_row (P := Trym.prog) w 23 23 3 5 g 0 dLen dCap ad sLen sCap cur.toArray 5 (cellsOf z) Trym.underlying23 size5 hg (by rw [len_cellsOf, hmin]; exact hn)
      (fun j v hv => by obtain ⟨hj, rfl⟩ := get_cellsOf z j v hv; exact hc j (by omega)) (by rw [len_cellsOf]; simp; omega) (one_cellsOf z)
    rw [len_cellsOf, hn] at hr
    refine ⟨_, hr, ?_, below_setRow (Below.refl _ _) (Nat.le_refl _) _⟩
    simpa [splice, len_cellsOf, hn] using setRow_heap w g _ _ 5 _ hg

/-- A row that holds just the bytes z. -/
theorem splice_all (n : Nat) (z : List Int) (h : z.length = n) : splice (zeros n) 0 (cellsOf z) = cellsOf z := by
  simp [splice, len_cellsOf, h, zeros]
theorem cell_of_row {w : World} {g : Nat} {z : List Int} (hg : w.heap[g]? = some (.cells (cellsOf z).toArray 5 (0, 0))) (i : Nat) (hi : i < z.length) :
    w.cell? ⟨g, i, none⟩ = some (.int .u8 (z.getD i 0)) := by
  simp [World.cell?, hg, cellsOf_get z i hi]
end Go.Proofs.Qxb6603753aMods.Mem
