/- Digit strings as patterns: a head, one digit that stops the carry, a run of one byte. No Go in sight. -/
namespace Go.Proofs.Qxb6603753aMods.Digits

/-- The byte at place j as a number. -/
def byteI (l : List UInt8) (j : Nat) : Int := ((l.getD j 0).toNat : Int)

theorem byteI_bd (l : List UInt8) (j : Nat) : 0 ≤ byteI l j ∧ byteI l j ≤ 255 := by
  unfold byteI
  have := (l.getD j 0).toNat_lt
  omega

/-- p, then d, then k times x. -/
def pat (p : List UInt8) (d : UInt8) (k : Nat) (x : UInt8) : List UInt8 := p ++ d :: List.replicate k x

theorem pat_length (p : List UInt8) (d : UInt8) (k : Nat) (x : UInt8) : (pat p d k x).length = p.length + 1 + k := by
  simp [pat]; omega
theorem pat_low (p : List UInt8) (d : UInt8) (k : Nat) (x : UInt8) (j : Nat) (h : j < p.length) : byteI (pat p d k x) j = byteI p j := by
  unfold byteI pat
  rw [List.getD_eq_getElem?_getD, List.getD_eq_getElem?_getD, List.getElem?_append_left h]
theorem pat_mid (p : List UInt8) (d : UInt8) (k : Nat) (x : UInt8) : byteI (pat p d k x) p.length = d.toNat := by
  unfold byteI pat
  rw [List.getD_eq_getElem?_getD, List.getElem?_append_right (Nat.le_refl _)]
  simp
theorem pat_high (p : List UInt8) (d : UInt8) (k : Nat) (x : UInt8) (j : Nat) (h1 : p.length < j) (h2 : j < p.length + 1 + k) : byteI (pat p d k x) j = x.toNat := by
  unfold byteI pat
  obtain ⟨i, rfl⟩ : ∃ i, j = p.length + (i + 1) := ⟨j - p.length - 1, by omega⟩
  rw [List.getD_eq_getElem?_getD, List.getElem?_append_right (by omega), Nat.add_sub_cancel_left, List.getElem?_cons_succ, List.getElem?_replicate, if_pos (by omega)]
  rfl

/-- Every list is a run of x, or a pattern that ends in a run of x behind a byte that is not x. -/
theorem split_run (x : UInt8) : ∀ l : List UInt8, l = List.replicate l.length x ∨ ∃ p d k, l = pat p d k x ∧ d ≠ x
  | [] => .inl rfl
  | a :: l => by
    rcases split_run x l with h | ⟨p, d, k, h, hd⟩
    · by_cases e : a = x
      · left
        subst e
        rw [List.length_cons, List.replicate_succ, ← h]
      · right
        refine ⟨[], a, l.length, ?_, e⟩
        unfold pat
        rw [List.nil_append, ← h]
    · right
      exact ⟨a :: p, d, k, by rw [h]; rfl, hd⟩

/-- All bytes are decimal digits. -/
def Dec (l : List UInt8) : Prop := ∀ b ∈ l, 48 ≤ b.toNat ∧ b.toNat ≤ 57
theorem dec_pat {p : List UInt8} {d : UInt8} {k : Nat} {x : UInt8} : Dec (pat p d k x) → Dec p ∧ (48 ≤ d.toNat ∧ d.toNat ≤ 57) := by
  intro h
  exact ⟨fun b hb => h b (by simp [pat, hb]), h d (by simp [pat])⟩
theorem dec_of {p : List UInt8} {d : UInt8} {k : Nat} {x : UInt8} (hp : Dec p) (hd : 48 ≤ d.toNat ∧ d.toNat ≤ 57) (hx : 48 ≤ x.toNat ∧ x.toNat ≤ 57) : Dec (pat p d k x) := by
  intro b hb
  unfold pat at hb
  rw [List.mem_append, List.mem_cons, List.mem_replicate] at hb
  rcases hb with hb | rfl | ⟨_, rfl⟩
  · exact hp b hb
  · exact hd
  · exact hx
theorem byteI_of_mem {l : List UInt8} {j : Nat} (h : j < l.length) : ∃ b ∈ l, byteI l j = b.toNat := by
  refine ⟨l[j], List.getElem_mem h, ?_⟩
  unfold byteI
  rw [List.getD_eq_getElem?_getD, List.getElem?_eq_getElem h]
  rfl
end Go.Proofs.Qxb6603753aMods.Digits
