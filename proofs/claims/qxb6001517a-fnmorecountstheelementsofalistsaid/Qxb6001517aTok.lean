/-
  Containers as lists of tokens: the plain part.
-/
import Derived.Test.Qxb6001517aScan
namespace Go.Proofs.Qxb6001517a
open Go.RowKit

def isOpen (c : Int) : Bool := c == 123 || c == 91
def isClose (c : Int) : Bool := c == 125 || c == 93
def deltaC (c : Int) : Int := if isOpen c then 1 else if isClose c then -1 else 0
/-- One byte that is no quote, or a whole string. -/
def tokOk (t : List Int) : Prop := (∃ c, t = [c] ∧ c ≠ 34) ∨ (∃ b, t = 34 :: b ∧ ∀ rest, strEnd (b ++ rest) = some b.length)
def delta (t : List Int) : Int := match t with | [c] => deltaC c | _ => 0
def dsum (T : List (List Int)) : Int := (T.map delta).sum

theorem delta_le (t : List Int) : delta t ≤ 1 ∧ -1 ≤ delta t := by
  unfold delta
  split
  · unfold deltaC; split
    · omega
    · split <;> omega
  · omega
theorem dsum_le (T : List (List Int)) : dsum T ≤ T.length ∧ -(T.length : Int) ≤ dsum T := by
  induction T with
  | nil => simp [dsum]
  | cons t T ih =>
    have := delta_le t
    simp only [dsum, List.map_cons, List.sum_cons, List.length_cons] at ih ⊢
    omega
theorem dsum_append (A B : List (List Int)) : dsum (A ++ B) = dsum A + dsum B := by simp [dsum]
theorem dsum_nil : dsum [] = 0 := rfl
theorem dsum_one (t : List Int) : dsum [t] = delta t := by simp [dsum]

/-- The tokens of one container. -/
def Cont (T : List (List Int)) : Prop := (∀ t ∈ T, tokOk t) ∧ (∀ j, 0 < j → j < T.length → 1 ≤ dsum (T.take j)) ∧ dsum T = 0 ∧ 2 ≤ T.length

theorem delta_string {b : List Int} (h : ∀ rest, strEnd (b ++ rest) = some b.length) : delta (34 :: b) = 0 := by
  cases b with
  | nil =>
    have := h [34]
    simp [strEnd] at this
  | cons a r => rfl

theorem tok_pos {t : List Int} (h : tokOk t) : 1 ≤ t.length := by
  rcases h with ⟨c, rfl, _⟩ | ⟨b, rfl, _⟩ <;> simp
theorem flat_length {T : List (List Int)} (h : ∀ t ∈ T, tokOk t) : T.length ≤ T.flatten.length := by
  induction T with
  | nil => simp
  | cons t T ih =>
    have h1 := tok_pos (h t List.mem_cons_self)
    have h2 := ih (fun x hx => h x (List.mem_cons_of_mem _ hx))
    rw [List.flatten_cons, List.length_append, List.length_cons]
    omega

/-- Where token j stands, what it is, and what is behind it. -/
theorem tok_at {T : List (List Int)} {l rest : List Int} {p j : Nat} (hl : l.drop p = T.flatten ++ rest) (hp : p ≤ l.length) (hj : j < T.length) :
    l.drop (p + (T.take j).flatten.length) = T[j] ++ ((T.drop (j + 1)).flatten ++ rest) ∧ p + (T.take (j + 1)).flatten.length = p + (T.take j).flatten.length + T[j].length ∧ p + (T.take (j + 1)).flatten.length ≤ l.length ∧ dsum (T.take (j + 1)) = dsum (T.take j) + delta T[j] := by
  have e1 : T.flatten = (T.take j).flatten ++ (T[j] ++ (T.drop (j + 1)).flatten) := by
    conv => lhs; rw [← List.take_append_drop j T, List.drop_eq_getElem_cons hj]
    rw [List.flatten_append, List.flatten_cons]
  have e2 : (T.take (j + 1)).flatten = (T.take j).flatten ++ T[j] := by
    rw [List.take_succ_eq_append_getElem hj, List.flatten_append]
    simp
  refine ⟨?_, ?_, ?_, ?_⟩
  · rw [← List.drop_drop, hl, e1, List.append_assoc, List.drop_left, List.append_assoc]
  · rw [e2, List.length_append]; omega
  · have h3 := congrArg List.length hl
    rw [List.length_drop, List.length_append, e1, List.length_append, List.length_append] at h3
    rw [e2, List.length_append]
    omega
  · rw [List.take_succ_eq_append_getElem hj, dsum_append, dsum_one]

/-- The cases of a round. -/
theorem cont_step {T : List (List Int)} {l rest : List Int} {p j : Nat} (hT : Cont T) (hl : l.drop p = T.flatten ++ rest) (hp : p ≤ l.length) (hj : j < T.length) {P P' : Nat} (hP : P = p + (T.take j).flatten.length) (hP' : P' = p + (T.take (j + 1)).flatten.length) :
    P < l.length ∧ P' ≤ l.length ∧
    ((l.getD P 0 = 34 ∧ ∃ m, strEnd (l.drop (P + 1)) = some m ∧ P' = P + 1 + m ∧ dsum (T.take (j + 1)) = dsum (T.take j) ∧ j + 1 < T.length ∧ 0 < j) ∨
     (∃ c, l.getD P 0 = c ∧ c ≠ 34 ∧ P' = P + 1 ∧ dsum (T.take (j + 1)) = dsum (T.take j) + deltaC c)) := by
  obtain ⟨h1, h2, h3, h4⟩ := tok_at hl hp hj
  rw [← hP] at h1 h2
  rw [← hP'] at h2 h3
  obtain ⟨hok, hpos, hsum, hlen⟩ := hT
  have ht := hok T[j] (List.getElem_mem hj)
  have htp := tok_pos ht
  have hPl : P < l.length := by omega
  refine ⟨hPl, h3, ?_⟩
  have hd := idrop_cons l P hPl
  rcases ht with ⟨c, hc, h34⟩ | ⟨b, hb, hse⟩
  · right
    rw [hc] at h1 h2 h4
    rw [hd] at h1
    simp only [List.cons_append, List.nil_append, List.cons.injEq] at h1
    exact ⟨c, h1.1, h34, h2, h4⟩
  · left
    rw [hb] at h1 h2 h4
    rw [hd] at h1
    simp only [List.cons_append, List.cons.injEq] at h1
    rw [delta_string hse] at h4
    have h5 : dsum (T.take (j + 1)) = dsum (T.take j) := by omega
    have hj0 : 0 < j := by
      rcases Nat.eq_zero_or_pos j with e | e
      · exfalso
        subst e
        have := hpos 1 (by omega) (by omega)
        rw [h5] at this
        simp [dsum] at this
      · exact e
    refine ⟨h1.1, b.length, by rw [h1.2]; exact hse _, by rw [h2, List.length_cons]; omega, h5, ?_, hj0⟩
    rcases Nat.lt_or_ge (j + 1) T.length with e | e
    · exact e
    · exfalso
      have e' : j + 1 = T.length := by omega
      have h6 := hpos j hj0 hj
      rw [← h5, e', List.take_length, hsum] at h6
      omega

theorem cont_first {T : List (List Int)} {l rest : List Int} {p : Nat} (hT : Cont T) (hl : l.drop p = T.flatten ++ rest) (hp : p ≤ l.length) : p < l.length ∧ isOpen (l.getD p 0) = true := by
  have hj : 0 < T.length := by have := hT.2.2.2; omega
  obtain ⟨a, _, h⟩ := cont_step hT hl hp hj (P := p) (by simp) rfl
  refine ⟨a, ?_⟩
  have h1 := hT.2.1 1 (by omega) (by have := hT.2.2.2; omega)
  rcases h with ⟨_, m, _, _, _, _, h0⟩ | ⟨c, hc, _, _, h5⟩
  · omega
  · rw [List.take_zero, dsum_nil, Nat.zero_add] at h5
    rw [h5] at h1
    rw [hc]
    unfold deltaC at h1
    split at h1
    · assumption
    · split at h1 <;> omega

end Go.Proofs.Qxb6001517a
