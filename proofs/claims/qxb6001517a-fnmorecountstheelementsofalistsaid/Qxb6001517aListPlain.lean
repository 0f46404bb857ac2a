/-
  A list's text: what is plain about it.
-/
import Derived.Test.Qxb6001517aWs
namespace Go.Proofs.Qxb6001517a

/-- k more items, each behind its comma; then blanks and the bracket; then suf. -/
inductive Tail (suf : List Int) : Nat → List Int → Prop where
  | done (b : List Int) : Blanks b → Tail suf 0 (b ++ 93 :: suf)
  | item (b1 b2 e r : List Int) (k : Nat) : Blanks b1 → Blanks b2 → Elem e → Tail suf k r → Tail suf (k + 1) (b1 ++ 44 :: (b2 ++ (e ++ r)))

/-- What may stand where more is asked: as above, or a first item, which has no comma. -/
inductive Turn (suf : List Int) : Nat → List Int → Prop where
  | tail (k : Nat) (t : List Int) : Tail suf k t → Turn suf k t
  | first (b e r : List Int) (k : Nat) : Blanks b → Elem e → Tail suf k r → Turn suf (k + 1) (b ++ (e ++ r))

/-- What stands behind the opening bracket when i items are written. -/
def Pre (i : Nat) (t : List Int) : Prop := (i = 0 ∧ t = []) ∨ (0 < i ∧ ∀ suf k r, Tail suf k r → Turn suf (i + k) (t ++ r))

theorem pre_zero : Pre 0 [] := .inl ⟨rfl, rfl⟩
theorem pre_first {b e : List Int} (hb : Blanks b) (he : Elem e) : Pre 1 (b ++ e) := .inr ⟨Nat.one_pos, fun suf k r hr => by
  rw [List.append_assoc, Nat.add_comm]
  exact .first b e r k hb he hr⟩
theorem pre_next {i : Nat} {t b1 b2 e : List Int} (h : Pre i t) (hi : 0 < i) (h1 : Blanks b1) (h2 : Blanks b2) (he : Elem e) : Pre (i + 1) (t ++ (b1 ++ 44 :: (b2 ++ e))) := by
  rcases h with ⟨h, _⟩ | ⟨_, h⟩
  · omega
  · refine .inr ⟨by omega, fun suf k r hr => ?_⟩
    have := h suf (k + 1) _ (Tail.item b1 b2 e r k h1 h2 he hr)
    rw [show i + 1 + k = i + (k + 1) by omega]
    simpa using this
theorem pre_end {i : Nat} {t b : List Int} (h : Pre i t) (hb : Blanks b) (suf : List Int) : Turn suf i (t ++ (b ++ 93 :: suf)) := by
  rcases h with ⟨rfl, rfl⟩ | ⟨_, h⟩
  · exact .tail _ _ (.done b hb)
  · exact h suf 0 _ (.done b hb)

theorem elem_len {e : List Int} (h : Elem e) : 4 ≤ e.length ∧ e.length ≤ 12 := by
  rcases h with rfl | rfl | rfl | rfl <;> decide

theorem blanks_u8 {c : Int} (h : isB c = true) : 0 ≤ c ∧ c ≤ 255 := by
  unfold isB at h
  simp at h
  omega

/-- A tail begins with what ends a bare token. -/
theorem tail_stop {suf : List Int} {k : Nat} {t : List Int} (h : Tail suf k t) : ∃ c r, t = c :: r ∧ isStop c = true ∧ 0 ≤ c ∧ c ≤ 255 := by
  cases h with
  | done b hb =>
    cases b with
    | nil => exact ⟨_, _, rfl, rfl, by decide, by decide⟩
    | cons c b =>
      have := hb c (by simp)
      exact ⟨c, _, rfl, by simp [isStop, this], blanks_u8 this⟩
  | item b1 b2 e r k h1 h2 he hr =>
    cases b1 with
    | nil => exact ⟨_, _, rfl, rfl, by decide, by decide⟩
    | cons c b =>
      have := h1 c (by simp)
      exact ⟨c, _, rfl, by simp [isStop, this], blanks_u8 this⟩

/-- The first byte of an element: no blank, no comma, no bracket that closes. -/
theorem elem_first {e : List Int} (h : Elem e) : ∃ c r, e = c :: r ∧ isB c = false ∧ (c == 44) = false ∧ (c == 125) = false ∧ (c == 93) = false ∧ (c == 0) = false ∧ 0 ≤ c ∧ c ≤ 255 := by
  rcases h with rfl | rfl | rfl | rfl <;> exact ⟨_, _, rfl, by decide⟩

/-- Reading by index off a text of which the rest is known. -/
theorem getD_of_drop {l : List Int} {p : Nat} {a b : List Int} (h : l.drop p = a ++ b) {i : Nat} (h0 : p ≤ i) (h1 : i < p + a.length) : l.getD i 0 = a.getD (i - p) 0 := by
  have h2 : (l.drop p)[i - p]? = l[i]? := by rw [List.getElem?_drop]; congr 1; omega
  rw [List.getD_eq_getElem?_getD, ← h2, h, List.getElem?_append_left (by omega), List.getD_eq_getElem?_getD]
theorem getD_drop_cons {l : List Int} {p : Nat} {a b : List Int} {c : Int} (h : l.drop p = a ++ c :: b) : l.getD (p + a.length) 0 = c ∧ p + a.length < l.length := by
  have hl := congrArg List.length h
  rw [List.length_drop, List.length_append, List.length_cons] at hl
  refine ⟨?_, by omega⟩
  have h2 : (l.drop p)[a.length]? = l[p + a.length]? := by rw [List.getElem?_drop]
  rw [List.getD_eq_getElem?_getD, ← h2, h, List.getElem?_append_right (Nat.le_refl _)]
  simp
theorem drop_more {l : List Int} {p : Nat} {a b : List Int} (h : l.drop p = a ++ b) : l.drop (p + a.length) = b := by
  rw [← List.drop_drop, h, List.drop_left]

end Go.Proofs.Qxb6001517a
