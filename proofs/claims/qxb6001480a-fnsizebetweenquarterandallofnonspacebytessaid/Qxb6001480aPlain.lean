/-
  Bytes that are no policy space; what decoding a rune at a place gives.
-/
import Derived.Test.Qxb6001480aRows
import Derived.Lib.Bytealg
import Derived.Laws.Runes
import Derived.Laws.RangeAny
namespace Go.Proofs.Qxb6001480a

/-- One of the four bytes that are not counted. -/
def psp (c : UInt8) : Bool := c == 32 || c == 9 || c == 10 || c == 13
/-- How many bytes are counted at most. -/
def ns (l : List UInt8) : Nat := (l.filter fun c => !psp c).length
/-- How many are spaces. -/
def nsp (l : List UInt8) : Nat := (l.filter psp).length
def allAscii (l : List UInt8) : Prop := ∀ c ∈ l, c.toNat < 128

theorem ns_append (a b : List UInt8) : ns (a ++ b) = ns a + ns b := by simp [ns]
theorem nsp_append (a b : List UInt8) : nsp (a ++ b) = nsp a + nsp b := by simp [nsp]
theorem ns_nsp (l : List UInt8) : ns l + nsp l = l.length := by
  induction l with
  | nil => rfl
  | cons a l ih =>
    unfold ns nsp at ih ⊢
    cases h : psp a <;> simp [h] <;> omega

theorem ns_one (c : UInt8) : ns [c] = if psp c then 0 else 1 := by cases h : psp c <;> simp [ns, h]
theorem nsp_one (c : UInt8) : nsp [c] = if psp c then 1 else 0 := by cases h : psp c <;> simp [nsp, h]

theorem high_not_psp {c : UInt8} (h : 128 ≤ c.toNat) : psp c = false := by
  unfold psp
  have h1 : c ≠ 32 := by rintro rfl; revert h; decide
  have h2 : c ≠ 9 := by rintro rfl; revert h; decide
  have h3 : c ≠ 10 := by rintro rfl; revert h; decide
  have h4 : c ≠ 13 := by rintro rfl; revert h; decide
  simp [h1, h2, h3, h4]

theorem ns_high (l : List UInt8) (h : ∀ c ∈ l, 128 ≤ c.toNat) : ns l = l.length := by
  unfold ns
  rw [List.filter_eq_self.2]
  intro c hc
  rw [high_not_psp (h c hc)]
  rfl

theorem get_bang (s : ByteArray) (i : Nat) (h : i < s.size) : s.get! i = s[i] := by
  simp [ByteArray.get!, getElem!_pos, h]
  rfl

/-- What decoding gives where a byte beyond ASCII stands. -/
theorem decode_facts (s : ByteArray) (pos : Nat) (h : pos < s.size) (ha : 128 ≤ (s[pos]).toNat) :
    1 ≤ (Utf8.decode s pos).2 ∧ (Utf8.decode s pos).2 ≤ 4 ∧ pos + (Utf8.decode s pos).2 ≤ s.size ∧ (∀ j, j < (Utf8.decode s pos).2 → 128 ≤ (s.get! (pos + j)).toNat) ∧
      ((Utf8.decode s pos).1 = 65533 ∨ Utf8.valid ((Utf8.decode s pos).1 : Int) = true) := by
  have hb0 : (s.get! (pos + 0)).toNat = s[pos].toNat := by rw [Nat.add_zero, get_bang s pos h]
  have hb : ∀ k, (s.get! (pos + k)).toNat < 256 := fun k => (s.get! (pos + k)).toNat_lt
  have one : ∀ j, j < 1 → 128 ≤ (s.get! (pos + j)).toNat := fun j hj => by
    have : j = 0 := by omega
    subst this
    omega
  have hn : ¬ (s.get! (pos + 0)).toNat < 128 := by omega
  simp only [Utf8.decode, hn, if_false]
  split
  · rename_i hc
    simp only [Bool.and_eq_true, decide_eq_true_eq, beq_iff_eq] at hc
    split
    · refine ⟨by simp, by simp, by omega, fun j hj => ?_, .inr ?_⟩
      · have : j = 0 ∨ j = 1 := by simp at hj; omega
        rcases this with rfl | rfl
        · omega
        · omega
      · rename_i hge
        rw [validRune_eq]
        unfold validRune
        have h1 := hb 1
        simp only [decide_eq_true_eq]
        simp at hge
        omega
    · exact ⟨by decide, by decide, by omega, one, .inl rfl⟩
  · split
    · rename_i hc
      simp only [Bool.and_eq_true, decide_eq_true_eq, beq_iff_eq] at hc
      split
      · rename_i hge
        simp only [Bool.and_eq_true] at hge
        refine ⟨by simp, by simp, by omega, fun j hj => ?_, .inr hge.2⟩
        have : j = 0 ∨ j = 1 ∨ j = 2 := by simp at hj; omega
        rcases this with rfl | rfl | rfl <;> omega
      · exact ⟨by decide, by decide, by omega, one, .inl rfl⟩
    · split
      · rename_i hc
        simp only [Bool.and_eq_true, decide_eq_true_eq, beq_iff_eq] at hc
        split
        · rename_i hge
          simp only [Bool.and_eq_true] at hge
          refine ⟨by simp, by simp, by omega, fun j hj => ?_, .inr hge.2⟩
          have : j = 0 ∨ j = 1 ∨ j = 2 ∨ j = 3 := by simp at hj; omega
          rcases this with rfl | rfl | rfl | rfl <;> omega
        · exact ⟨by decide, by decide, by omega, one, .inl rfl⟩
      · exact ⟨by decide, by decide, by omega, one, .inl rfl⟩

/-- The count C goes with the bytes l that have been passed. -/
def Goes (C : Nat) (l : List UInt8) : Prop := C ≤ ns l ∧ ns l ≤ 4 * C ∧ (allAscii l → C = ns l)

theorem goes_nil : Goes 0 [] := ⟨Nat.le_refl _, Nat.le_refl _, fun _ => rfl⟩

theorem goes_space {C : Nat} {l : List UInt8} {c : UInt8} (h : Goes C l) (hc : psp c = true) : Goes C (l ++ [c]) := by
  obtain ⟨h1, h2, h3⟩ := h
  have e : ns (l ++ [c]) = ns l := by rw [ns_append, ns_one, if_pos hc]; rfl
  rw [Goes, e]
  exact ⟨h1, h2, fun ha => h3 fun x hx => ha x (List.mem_append_left _ hx)⟩

theorem goes_one {C : Nat} {l : List UInt8} {c : UInt8} (h : Goes C l) (hc : psp c = false) : Goes (C + 1) (l ++ [c]) := by
  obtain ⟨h1, h2, h3⟩ := h
  have e : ns (l ++ [c]) = ns l + 1 := by rw [ns_append, ns_one, hc]; rfl
  rw [Goes, e]
  exact ⟨by omega, by omega, fun ha => by rw [h3 fun x hx => ha x (List.mem_append_left _ hx)]⟩

theorem goes_high {C : Nat} {l m : List UInt8} (h : Goes C l) (h0 : 1 ≤ m.length) (h4 : m.length ≤ 4) (hm : ∀ c ∈ m, 128 ≤ c.toNat) : Goes (C + 1) (l ++ m) := by
  obtain ⟨h1, h2, h3⟩ := h
  have e : ns (l ++ m) = ns l + m.length := by rw [ns_append, ns_high m hm]
  rw [Goes, e]
  refine ⟨by omega, by omega, fun ha => ?_⟩
  obtain ⟨c, q, rfl⟩ := List.exists_cons_of_ne_nil (l := m) (by intro e; rw [e] at h0; simp at h0)
  have h5 := ha c (List.mem_append_right _ List.mem_cons_self)
  have h6 := hm c List.mem_cons_self
  omega

theorem take_more (s : ByteArray) (pos d : Nat) : s.data.toList.take (pos + d) = s.data.toList.take pos ++ (s.data.toList.drop pos).take d := by
  rw [List.take_add]

end Go.Proofs.Qxb6001480a
