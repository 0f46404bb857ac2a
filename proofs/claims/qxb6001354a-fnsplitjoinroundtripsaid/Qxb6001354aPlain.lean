/-
  split as a plain function on lists of bytes, and what its pieces are.
-/
import Derived.Lib.IndexMore
namespace Go.Proofs.Qxb6001354a

/-- White space. -/
def sp (c : UInt8) : Bool := c == 32 || c == 9 || c == 10 || c == 12 || c == 13
def sepL : List UInt8 := [10, 45, 45, 45]
def dashL : List UInt8 := [45, 45, 45]
/-- Without the white space at its end. -/
def trimR (l : List UInt8) : List UInt8 := (l.reverse.dropWhile sp).reverse
/-- How many places begin a separator. -/
def cnt : List UInt8 → Nat
  | [] => 0
  | a :: l => (if sepL.isPrefixOf (a :: l) then 1 else 0) + cnt l
def splitL : Nat → List UInt8 → List (List UInt8)
  | 0, l => [l]
  | f + 1, l => if Lib.index l sepL < 0 then [l] else trimR (l.take (Lib.index l sepL).toNat) :: splitL f ((l.drop ((Lib.index l sepL).toNat + 4)).dropWhile sp)
def splitT (t : List UInt8) : List (List UInt8) := if dashL.isPrefixOf t then [] :: splitL t.length ((t.drop 3).dropWhile sp) else splitL t.length t

theorem trimR_eq {x y z : List UInt8} (h : x = y ++ z) (hz : ∀ c ∈ z, sp c = true) (hy : ∀ a r, y = r ++ [a] → sp a = false) : trimR x = y := by
  subst h
  unfold trimR
  rw [List.reverse_append, List.dropWhile_append_of_pos (fun c hc => hz c (List.mem_reverse.1 hc))]
  cases hr : y.reverse with
  | nil =>
    have : y = [] := by simpa using hr
    subst this
    rfl
  | cons a r =>
    have hyr : y = r.reverse ++ [a] := by rw [← List.reverse_reverse y, hr, List.reverse_cons]
    have ha := hy a r.reverse hyr
    rw [List.dropWhile_cons_of_neg (by simp [ha]), ← hr, List.reverse_reverse]

theorem trimR_split (l : List UInt8) : ∃ z, l = trimR l ++ z ∧ ∀ c ∈ z, sp c = true := by
  refine ⟨(l.reverse.takeWhile sp).reverse, ?_, fun c hc => ?_⟩
  · unfold trimR
    rw [← List.reverse_append, List.takeWhile_append_dropWhile, List.reverse_reverse]
  · exact List.all_eq_true.1 List.all_takeWhile c (List.mem_reverse.1 hc)

def headOk (d : List UInt8) : Prop := ∀ a r, d = a :: r → sp a = false
def lastOk (d : List UInt8) : Prop := ∀ a r, d = r ++ [a] → sp a = false

theorem trimR_lastOk (l : List UInt8) : lastOk (trimR l) := by
  intro a r h
  unfold trimR at h
  have h2 : l.reverse.dropWhile sp = a :: r.reverse := by
    rw [← List.reverse_reverse (l.reverse.dropWhile sp), h]
    simp
  have := List.head?_dropWhile_not sp l.reverse
  rw [h2] at this
  simpa using this

theorem dropWhile_headOk (l : List UInt8) : headOk (l.dropWhile sp) := by
  intro a r h
  have := List.head?_dropWhile_not sp l
  rw [h] at this
  simpa using this

theorem trimR_headOk {l : List UInt8} (h : headOk l) : headOk (trimR l) := by
  obtain ⟨z, hz, _⟩ := trimR_split l
  intro a r e
  exact h a (r ++ z) (by rw [hz, e]; rfl)

theorem cnt_drop_le (l : List UInt8) (j : Nat) : cnt (l.drop j) ≤ cnt l := by
  induction j generalizing l with
  | zero => exact Nat.le_refl _
  | succ j ih =>
    cases l with
    | nil => exact Nat.le_refl _
    | cons a l =>
      rw [List.drop_succ_cons]
      have := ih l
      simp only [cnt]
      omega

theorem cnt_zero_iff (l : List UInt8) : cnt l = 0 ↔ ∀ j, j ≤ l.length → Lib.occAt l sepL j = false := by
  induction l with
  | nil =>
    refine ⟨fun _ j hj => ?_, fun _ => rfl⟩
    have : j = 0 := by simpa using hj
    subst this
    rfl
  | cons a l ih =>
    constructor
    · intro h j hj
      simp only [cnt] at h
      cases j with
      | zero =>
        unfold Lib.occAt
        rw [List.drop_zero]
        cases hp : sepL.isPrefixOf (a :: l) with
        | false => rfl
        | true => rw [hp] at h; simp at h
      | succ j =>
        have := ih.1 (by omega) j (by simpa using hj)
        unfold Lib.occAt at this ⊢
        rwa [List.drop_succ_cons]
    · intro h
      have h0 := h 0 (Nat.zero_le _)
      unfold Lib.occAt at h0
      rw [List.drop_zero] at h0
      simp only [cnt, h0]
      rw [ih.2 fun j hj => ?_]
      · rfl
      · have := h (j + 1) (by simpa using hj)
        unfold Lib.occAt at this ⊢
        rwa [List.drop_succ_cons] at this

theorem index_neg_iff (l : List UInt8) : Lib.index l sepL < 0 ↔ cnt l = 0 := by
  rw [cnt_zero_iff]
  rcases Lib.index_spec l sepL with ⟨h1, h2⟩ | ⟨i, h1, h2, h3, h4⟩
  · exact ⟨fun _ => h2, fun _ => by rw [h1]; decide⟩
  · rw [h1]
    exact ⟨fun h => by omega, fun h => by rw [h i h2] at h3; cases h3⟩

theorem occAt_append {a b : List UInt8} {j : Nat} (h : Lib.occAt a sepL j = true) : Lib.occAt (a ++ b) sepL j = true := by
  unfold Lib.occAt at h ⊢
  rw [List.isPrefixOf_iff_prefix] at h ⊢
  have hl := h.length_le
  have : j ≤ a.length := by
    rw [List.length_drop] at hl
    have e : sepL.length = 4 := rfl
    omega
  rw [List.drop_append_of_le_length this]
  exact h.trans (List.prefix_append _ _)

theorem cnt_prefix {a b : List UInt8} (h : cnt (a ++ b) = 0) : cnt a = 0 := by
  rw [cnt_zero_iff] at h ⊢
  intro j hj
  cases hc : Lib.occAt a sepL j with
  | false => rfl
  | true =>
    have := h j (by rw [List.length_append]; omega)
    rw [occAt_append hc] at this
    cases this

/-- Ahead of the first separator there is none. -/
theorem cnt_take {l : List UInt8} {i : Nat} (hno : Lib.NoOcc l sepL i) : cnt (l.take i) = 0 := by
  rw [cnt_zero_iff]
  intro j hj
  cases hc : Lib.occAt (l.take i) sepL j with
  | false => rfl
  | true =>
    have h1 := occAt_append (b := l.drop i) hc
    rw [List.take_append_drop] at h1
    have h2 := Lib.occAt_room hc
    have hj' : j < i := by
      rcases h2 with h2 | h2
      · have e : sepL.length = 4 := rfl
        rw [List.length_take] at h2
        omega
      · cases h2
    rw [hno j hj'] at h1
    cases h1

theorem cnt_trim {l : List UInt8} (h : cnt l = 0) : cnt (trimR l) = 0 := by
  obtain ⟨z, hz, _⟩ := trimR_split l
  rw [hz] at h
  exact cnt_prefix h

theorem cnt_at {l : List UInt8} {i : Nat} (hi : Lib.occAt l sepL i = true) : 1 + cnt (l.drop (i + 4)) ≤ cnt l := by
  have h1 := cnt_drop_le l i
  have h2 : 1 + cnt (l.drop (i + 1)) = cnt (l.drop i) := by
    unfold Lib.occAt at hi
    cases hd : l.drop i with
    | nil => rw [hd] at hi; cases hi
    | cons a r =>
      rw [hd] at hi
      have : l.drop (i + 1) = r := by rw [← List.drop_drop, hd]; rfl
      rw [this]
      simp only [cnt, hi, if_true]
  have h3 := cnt_drop_le (l.drop (i + 1)) 3
  rw [List.drop_drop] at h3
  rw [show i + 1 + 3 = i + 4 by omega] at h3
  omega

theorem cnt_dropWhile (l : List UInt8) : cnt (l.dropWhile sp) ≤ cnt l := by
  have h : l.dropWhile sp = l.drop (l.length - (l.dropWhile sp).length) := by
    have e := List.takeWhile_append_dropWhile (p := sp) (l := l)
    have hl : l.length = (l.takeWhile sp).length + (l.dropWhile sp).length := by rw [← List.length_append, e]
    have hk : l.length - (l.dropWhile sp).length = (l.takeWhile sp).length := by omega
    rw [hk]
    have h4 : (l.takeWhile sp ++ l.dropWhile sp).drop (l.takeWhile sp).length = l.dropWhile sp := List.drop_left
    rw [e] at h4
    exact h4.symm
  rw [h]
  exact cnt_drop_le l _

theorem dropWhile_length (l : List UInt8) : (l.dropWhile sp).length ≤ l.length := by
  have e := List.takeWhile_append_dropWhile (p := sp) (l := l)
  have hl : l.length = (l.takeWhile sp).length + (l.dropWhile sp).length := by rw [← List.length_append, e]
  omega

theorem trimR_length (l : List UInt8) : (trimR l).length ≤ l.length := by
  obtain ⟨z, hz, _⟩ := trimR_split l
  have hl : l.length = (trimR l).length + z.length := by rw [← List.length_append, ← hz]
  omega

/-- The two ways of one step. -/
theorem splitL_none {f : Nat} {l : List UInt8} (h : Lib.index l sepL < 0) : splitL f l = [l] := by
  cases f with
  | zero => rfl
  | succ f => simp only [splitL, if_pos h]
theorem splitL_some {f : Nat} {l : List UInt8} {i : Nat} (h : Lib.index l sepL = i) : splitL (f + 1) l = trimR (l.take i) :: splitL f ((l.drop (i + 4)).dropWhile sp) := by
  simp only [splitL, h]
  rw [if_neg (by omega)]
  rfl

theorem splitL_cases (l : List UInt8) : Lib.index l sepL < 0 ∨ ∃ i : Nat, Lib.index l sepL = i ∧ i + 4 ≤ l.length ∧ Lib.occAt l sepL i = true ∧ Lib.NoOcc l sepL i := by
  rcases Lib.index_spec l sepL with ⟨h1, h2⟩ | ⟨i, h1, h2, h3, h4⟩
  · exact .inl (by rw [h1]; decide)
  · refine .inr ⟨i, h1, ?_, h3, h4⟩
    rcases Lib.occAt_room h3 with h | h
    · exact h
    · cases h

theorem next_length (l : List UInt8) (i : Nat) : ((l.drop (i + 4)).dropWhile sp).length ≤ l.length - (i + 4) := by
  have := dropWhile_length (l.drop (i + 4))
  rwa [List.length_drop] at this

theorem splitL_length (f : Nat) (l : List UInt8) : 1 ≤ (splitL f l).length ∧ (splitL f l).length ≤ 1 + cnt l := by
  induction f generalizing l with
  | zero => simp [splitL]
  | succ f ih =>
    rcases splitL_cases l with h | ⟨i, h, _, ho, _⟩
    · rw [splitL_none h]; simp
    · rw [splitL_some h]
      have := ih ((l.drop (i + 4)).dropWhile sp)
      have h1 := cnt_dropWhile (l.drop (i + 4))
      have h2 := cnt_at ho
      simp only [List.length_cons]
      omega

theorem splitL_cnt (f : Nat) (l : List UInt8) (hf : l.length ≤ f) : ∀ d ∈ splitL f l, cnt d = 0 := by
  induction f generalizing l with
  | zero =>
    intro d hd
    have : l = [] := List.length_eq_zero_iff.1 (by omega)
    subst this
    simp only [splitL, List.mem_singleton] at hd
    subst hd
    rfl
  | succ f ih =>
    intro d hd
    rcases splitL_cases l with h | ⟨i, h, hr, ho, hno⟩
    · rw [splitL_none h, List.mem_singleton] at hd
      subst hd
      exact (index_neg_iff _).1 h
    · rw [splitL_some h] at hd
      rcases List.mem_cons.1 hd with rfl | hd
      · exact cnt_trim (cnt_take hno)
      · have := next_length l i
        exact ih _ (by omega) d hd

theorem take_headOk {l : List UInt8} (h : headOk l) (i : Nat) : headOk (l.take i) := by
  intro a r e
  refine h a (r ++ l.drop i) ?_
  conv => lhs; rw [← List.take_append_drop i l]
  rw [e]
  rfl

theorem splitL_heads (f : Nat) (l : List UInt8) (hl : headOk l) : ∀ d ∈ splitL f l, headOk d := by
  induction f generalizing l with
  | zero =>
    intro d hd
    simp only [splitL, List.mem_singleton] at hd
    subst hd
    exact hl
  | succ f ih =>
    intro d hd
    rcases splitL_cases l with h | ⟨i, h, hr, ho, hno⟩
    · rw [splitL_none h, List.mem_singleton] at hd
      subst hd
      exact hl
    · rw [splitL_some h] at hd
      rcases List.mem_cons.1 hd with rfl | hd
      · exact trimR_headOk (take_headOk hl i)
      · exact ih _ (dropWhile_headOk _) d hd

theorem splitL_tail (f : Nat) (l : List UInt8) : ∀ d ∈ (splitL f l).tail, headOk d := by
  cases f with
  | zero => intro d hd; cases hd
  | succ f =>
    rcases splitL_cases l with h | ⟨i, h, hr, ho, hno⟩
    · rw [splitL_none h]; intro d hd; cases hd
    · rw [splitL_some h, List.tail_cons]
      exact splitL_heads f _ (dropWhile_headOk _)

theorem splitL_lasts (f : Nat) (l : List UInt8) : ∀ d ∈ (splitL f l).dropLast, lastOk d := by
  induction f generalizing l with
  | zero => intro d hd; cases hd
  | succ f ih =>
    intro d hd
    rcases splitL_cases l with h | ⟨i, h, hr, ho, hno⟩
    · rw [splitL_none h] at hd; cases hd
    · rw [splitL_some h] at hd
      have hne : splitL f ((l.drop (i + 4)).dropWhile sp) ≠ [] := by
        have := (splitL_length f ((l.drop (i + 4)).dropWhile sp)).1
        intro e; rw [e] at this; simp at this
      rw [List.dropLast_cons_of_ne_nil hne] at hd
      rcases List.mem_cons.1 hd with rfl | hd
      · exact trimR_lastOk _
      · exact ih _ d hd

def tots (D : List (List UInt8)) : Nat := (D.map List.length).sum

theorem splitL_tots (f : Nat) (l : List UInt8) : tots (splitL f l) ≤ l.length := by
  induction f generalizing l with
  | zero => simp [splitL, tots]
  | succ f ih =>
    rcases splitL_cases l with h | ⟨i, h, hr, ho, hno⟩
    · rw [splitL_none h]; simp [tots]
    · rw [splitL_some h]
      have h1 := ih ((l.drop (i + 4)).dropWhile sp)
      have h2 := trimR_length (l.take i)
      have h3 := next_length l i
      rw [List.length_take] at h2
      simp only [tots, List.map_cons, List.sum_cons] at h1 ⊢
      omega

/-! ### The whole text -/

def extra (t : List UInt8) : Nat := if dashL.isPrefixOf t then 1 else 0

theorem drop_dropWhile_length (t : List UInt8) : ((t.drop 3).dropWhile sp).length ≤ t.length := by
  have := dropWhile_length (t.drop 3)
  rw [List.length_drop] at this
  omega

theorem splitT_length (t : List UInt8) : 1 ≤ (splitT t).length ∧ (splitT t).length ≤ 1 + cnt t + extra t := by
  unfold splitT extra
  split
  · have h := splitL_length t.length ((t.drop 3).dropWhile sp)
    have h1 := cnt_dropWhile (t.drop 3)
    have h2 := cnt_drop_le t 3
    simp only [List.length_cons]
    omega
  · exact splitL_length t.length t

theorem splitT_cnt (t : List UInt8) : ∀ d ∈ splitT t, cnt d = 0 := by
  unfold splitT
  split
  · intro d hd
    rcases List.mem_cons.1 hd with rfl | hd
    · rfl
    · exact splitL_cnt _ _ (drop_dropWhile_length t) d hd
  · exact splitL_cnt _ _ (Nat.le_refl _)

theorem splitT_tail (t : List UInt8) : ∀ d ∈ (splitT t).tail, headOk d := by
  unfold splitT
  split
  · rw [List.tail_cons]
    exact splitL_heads _ _ (dropWhile_headOk _)
  · exact splitL_tail _ _

theorem splitT_lasts (t : List UInt8) : ∀ d ∈ (splitT t).dropLast, lastOk d := by
  unfold splitT
  split
  · intro d hd
    have hne : splitL t.length ((t.drop 3).dropWhile sp) ≠ [] := by
      have := (splitL_length t.length ((t.drop 3).dropWhile sp)).1
      intro e; rw [e] at this; simp at this
    rw [List.dropLast_cons_of_ne_nil hne] at hd
    rcases List.mem_cons.1 hd with rfl | hd
    · intro a r e; simp at e
    · exact splitL_lasts _ _ d hd
  · exact splitL_lasts _ _

theorem splitT_tots (t : List UInt8) : tots (splitT t) ≤ t.length := by
  unfold splitT
  split
  · have := splitL_tots t.length ((t.drop 3).dropWhile sp)
    have h2 := drop_dropWhile_length t
    simp only [tots, List.map_cons, List.sum_cons, List.length_nil] at this ⊢
    omega
  · exact splitL_tots _ _

theorem splitT_one (t : List UInt8) (h : cnt t = 0) (he : extra t = 0) : splitT t = [t] := by
  unfold splitT
  unfold extra at he
  split
  · rename_i hp; rw [if_pos hp] at he; cases he
  · exact splitL_none ((index_neg_iff t).2 h)

end Go.Proofs.Qxb6001354a
