/-
  How a container's tokens grow; three rows of the call's own.
-/
import Derived.Test.Qxb6001517aTok
import Derived.Test.Qxb6001517aBytes
namespace Go.Proofs.Qxb6001517a
open Go.RowKit

/-- A container that is not closed yet, d deep. -/
def Open (T : List (List Int)) (d : Int) : Prop := (∀ t ∈ T, tokOk t) ∧ dsum T = d ∧ (∀ j, 0 < j → j ≤ T.length → 1 ≤ dsum (T.take j)) ∧ 1 ≤ T.length

theorem open_one {c : Int} (h : isOpen c = true) (h34 : c ≠ 34) : Open [[c]] 1 := by
  have hd : delta [c] = 1 := by show deltaC c = 1; unfold deltaC; rw [if_pos h]
  refine ⟨fun t ht => ?_, by rw [dsum_one, hd], fun j h0 hj => ?_, by simp⟩
  · rw [List.mem_singleton] at ht
    exact .inl ⟨c, ht, h34⟩
  · have : j = 1 := by simp at hj; omega
    subst this
    rw [show List.take 1 [[c]] = [[c]] from rfl, dsum_one, hd]
    omega

theorem open_snoc {T : List (List Int)} {d : Int} {t : List Int} (h : Open T d) (ht : tokOk t) (hd : 1 ≤ d + delta t) : Open (T ++ [t]) (d + delta t) := by
  obtain ⟨h1, h2, h3, h4⟩ := h
  have hs : dsum (T ++ [t]) = d + delta t := by rw [dsum_append, dsum_one, h2]
  refine ⟨fun x hx => ?_, hs, fun j h0 hj => ?_, by simp⟩
  · rcases List.mem_append.1 hx with h | h
    · exact h1 x h
    · rw [List.mem_singleton] at h
      rw [h]; exact ht
  · by_cases e : j ≤ T.length
    · rw [List.take_append_of_le_length e]
      exact h3 j h0 e
    · rw [List.length_append, List.length_singleton] at hj
      rw [List.take_of_length_le (by rw [List.length_append, List.length_singleton]; omega), hs]
      exact hd

theorem open_quiet {T : List (List Int)} {d : Int} (h : Open T d) (hd : 1 ≤ d) : ∀ (A : List (List Int)), (∀ t ∈ A, tokOk t ∧ delta t = 0) → Open (T ++ A) d := by
  intro A
  induction A generalizing T with
  | nil => intro _; rw [List.append_nil]; exact h
  | cons t A ih =>
    intro hA
    obtain ⟨a, b⟩ := hA t List.mem_cons_self
    have h1 : Open (T ++ [t]) d := by
      have := open_snoc h a (by rw [b]; omega)
      rw [b, Int.add_zero] at this
      exact this
    have := ih h1 (fun x hx => hA x (List.mem_cons_of_mem _ hx))
    rw [List.append_assoc] at this
    exact this

theorem cont_close {T : List (List Int)} {c : Int} (h : Open T 1) (hc : isClose c = true) (ho : isOpen c = false) (h34 : c ≠ 34) : Cont (T ++ [[c]]) := by
  obtain ⟨h1, h2, h3, h4⟩ := h
  have hd : delta [c] = -1 := by show deltaC c = -1; unfold deltaC; rw [ho, hc]; rfl
  refine ⟨fun x hx => ?_, fun j h0 hj => ?_, by rw [dsum_append, dsum_one, h2, hd]; rfl, by rw [List.length_append, List.length_singleton]; omega⟩
  · rcases List.mem_append.1 hx with h | h
    · exact h1 x h
    · rw [List.mem_singleton] at h
      exact .inl ⟨c, h, h34⟩
  · rw [List.length_append, List.length_singleton] at hj
    rw [List.take_append_of_le_length (by omega)]
    exact h3 j h0 (by omega)

theorem closer_facts (k : Int) : isClose (closer k) = true ∧ isOpen (closer k) = false ∧ closer k ≠ 34 := by
  unfold closer
  split <;> exact ⟨rfl, rfl, by decide⟩
theorem delta_closer (k : Int) : delta [closer k] = -1 := by
  obtain ⟨a, b, _⟩ := closer_facts k
  show deltaC (closer k) = -1
  unfold deltaC
  rw [b, a]; rfl
theorem tok_closer (k : Int) : tokOk [closer k] := .inl ⟨_, rfl, (closer_facts k).2.2⟩

/-- Bytes that are each a token of its own, and no bracket. -/
def quietB (c : Int) : Bool := c != 34 && !isOpen c && !isClose c
theorem quiet_tok {c : Int} (h : quietB c = true) : tokOk [c] ∧ delta [c] = 0 := by
  unfold quietB at h
  simp only [Bool.and_eq_true, bne_iff_ne, Bool.not_eq_true'] at h
  refine ⟨.inl ⟨c, rfl, h.1.1⟩, ?_⟩
  show deltaC c = 0
  unfold deltaC
  rw [h.1.2, h.2]; rfl
theorem quiet_list (l : List Int) (h : l.all quietB = true) : ∀ t ∈ l.map (fun c => [c]), tokOk t ∧ delta t = 0 := by
  intro t ht
  obtain ⟨c, hc, rfl⟩ := List.mem_map.1 ht
  exact quiet_tok (List.all_eq_true.1 h c hc)
theorem flat_map_one (l : List Int) : (l.map (fun c => [c])).flatten = l := by
  induction l with
  | nil => rfl
  | cons a l ih => rw [List.map_cons, List.flatten_cons, ih]; rfl

/-- The string "k]" and the string of brackets, whole. -/
theorem tok_key : tokOk [34, 107, 93, 34] := .inr ⟨[107, 93, 34], rfl, fun rest => by
  show strEnd (107 :: 93 :: 34 :: rest) = some 3
  simp [strEnd, strEnd_quote]⟩
theorem tok_str : tokOk [34, 97, 92, 34, 93, 125, 123, 91, 92, 92, 34] := .inr ⟨[97, 92, 34, 93, 125, 123, 91, 92, 92, 34], rfl, fun rest => by
  show strEnd (97 :: 92 :: 34 :: 93 :: 125 :: 123 :: 91 :: 92 :: 92 :: 34 :: rest) = some 10
  simp [strEnd, strEnd_quote]⟩

theorem quiet_key : ∀ t ∈ [[34, 107, 93, 34], [58]], tokOk t ∧ delta t = 0 := by
  intro t ht
  rcases List.mem_cons.1 ht with rfl | ht
  · exact ⟨tok_key, rfl⟩
  · rw [List.mem_singleton] at ht
    subst ht
    exact quiet_tok (by decide)
theorem quiet_str : ∀ t ∈ [[34, 97, 92, 34, 93, 125, 123, 91, 92, 92, 34]], tokOk t ∧ delta t = 0 := by
  intro t ht
  rw [List.mem_singleton] at ht
  subst ht
  exact ⟨tok_str, rfl⟩

/-! ### Three rows -/

/-- The slice of n bools at the head of block g holds l. -/
def FRow (w : World) (g n cap : Nat) (l : List Bool) : Prop := w.ownsRow 0 4 1 (.slice (some ⟨g, 0, none⟩) n cap) n (l.map Value.bool)

theorem FRow.len {w : World} {g n cap : Nat} {l : List Bool} (h : FRow w g n cap l) : l.length = n := by
  have := h.1
  rw [List.length_map] at this
  omega
theorem FRow.lt {w : World} {g n cap : Nat} {l : List Bool} (h : FRow w g n cap l) : g < w.heap.size := by
  rcases h.2 with ⟨h, _⟩ | ⟨g', cap', cur, h, _, hg, _⟩
  · cases h
  · injection h with h1 _ _
    injection h1 with h1
    injection h1 with h1
    subst h1
    exact (Array.getElem?_eq_some_iff.1 hg).1
theorem FRow.kept {w w' : World} {g n cap : Nat} {l : List Bool} {row : Option Nat} (h : FRow w g n cap l) (hg : w.grownBy w' row) (hne : some g ≠ row) : FRow w' g n cap l :=
  World.ownsRow.kept h hg (.inr hne)
theorem FRow.cell {w : World} {g n cap : Nat} {l : List Bool} (h : FRow w g n cap l) (i : Nat) (hi : i < n) : w.cell? ⟨g, i, none⟩ = some (.bool (l.getD i false)) := by
  have hl := h.len
  rw [World.ownsRow.cellAt h i (by omega)]
  simp [show i < l.length by omega]
theorem FRow.alloc {w : World} {g n cap : Nat} {l : List Bool} (h : FRow w g n cap l) (o : Obj) : FRow (w.alloc o) g n cap l := World.ownsRow.alloc h o
theorem FRow.store {w : World} {g n cap : Nat} {l : List Bool} (h : FRow w g n cap l) (i : Nat) (b : Bool) : FRow (w.setCell ⟨g, i, none⟩ (.bool b)) g n cap (l.set i b) ∧ w.grownBy (w.setCell ⟨g, i, none⟩ (.bool b)) (some g) := by
  have := World.ownsRow.stored h i (.bool b)
  refine ⟨?_, this.2⟩
  unfold FRow
  rw [List.map_set]
  exact this.1
theorem FRow.pop {w : World} {g n cap : Nat} {l : List Bool} (h : FRow w g (n + 1) cap l) : FRow w g n cap (l.take n) := by
  have hl := h.len
  refine ownsRow_pop (last := (l.drop n).map Value.bool) (by simp; omega) ?_
  rw [← List.map_append, List.take_append_drop]
  exact h
theorem BRow.pop {w : World} {g n cap : Nat} {l : List Int} (h : BRow w g (n + 1) cap l) : BRow w g n cap (l.take n) := by
  have hl := h.len
  unfold BRow
  refine ownsRow_pop (last := bc (l.drop n)) (by rw [bc_length, List.length_take]; omega) ?_
  rw [← bc_append, List.take_append_drop]
  exact h

/-- The three rows of zzBuildContainer: the text, the kinds, the marks. -/
def R3 (w : World) (g0 n0 c0 : Nat) (l : List Int) (g1 n1 c1 : Nat) (ks : List Int) (g2 n2 c2 : Nat) (fs : List Bool) : Prop :=
  BRow w g0 n0 c0 l ∧ BRow w g1 n1 c1 ks ∧ FRow w g2 n2 c2 fs ∧ g0 ≠ g1 ∧ g0 ≠ g2 ∧ g1 ≠ g2

theorem R3.alloc {w : World} {g0 n0 c0 : Nat} {l : List Int} {g1 n1 c1 : Nat} {ks : List Int} {g2 n2 c2 : Nat} {fs : List Bool} (h : R3 w g0 n0 c0 l g1 n1 c1 ks g2 n2 c2 fs) (o : Obj) : R3 (w.alloc o) g0 n0 c0 l g1 n1 c1 ks g2 n2 c2 fs :=
  ⟨h.1.alloc o, h.2.1.alloc o, h.2.2.1.alloc o, h.2.2.2⟩
theorem R3.out {w w' : World} {g0 n0 c0 : Nat} {l : List Int} {g1 n1 c1 : Nat} {ks : List Int} {g2 n2 c2 : Nat} {fs : List Bool} {n0' : Nat} {l' : List Int} (h : R3 w g0 n0 c0 l g1 n1 c1 ks g2 n2 c2 fs) (hg : w.grownBy w' (some g0)) (hb : BRow w' g0 n0' c0 l') : R3 w' g0 n0' c0 l' g1 n1 c1 ks g2 n2 c2 fs :=
  ⟨hb, h.2.1.kept hg (by have := h.2.2.2.1; simp; omega), h.2.2.1.kept hg (by have := h.2.2.2.2.1; simp; omega), h.2.2.2⟩
theorem R3.kinds {w w' : World} {g0 n0 c0 : Nat} {l : List Int} {g1 n1 c1 : Nat} {ks : List Int} {g2 n2 c2 : Nat} {fs : List Bool} {n1' : Nat} {ks' : List Int} (h : R3 w g0 n0 c0 l g1 n1 c1 ks g2 n2 c2 fs) (hg : w.grownBy w' (some g1)) (hb : BRow w' g1 n1' c1 ks') : R3 w' g0 n0 c0 l g1 n1' c1 ks' g2 n2 c2 fs :=
  ⟨h.1.kept hg (by have := h.2.2.2.1; simp; omega), hb, h.2.2.1.kept hg (by have := h.2.2.2.2.2; simp; omega), h.2.2.2⟩
theorem R3.marks {w w' : World} {g0 n0 c0 : Nat} {l : List Int} {g1 n1 c1 : Nat} {ks : List Int} {g2 n2 c2 : Nat} {fs : List Bool} {n2' : Nat} {fs' : List Bool} (h : R3 w g0 n0 c0 l g1 n1 c1 ks g2 n2 c2 fs) (hg : w.grownBy w' (some g2)) (hb : FRow w' g2 n2' c2 fs') : R3 w' g0 n0 c0 l g1 n1 c1 ks g2 n2' c2 fs' :=
  ⟨h.1.kept hg (by have := h.2.2.2.2.1; simp; omega), h.2.1.kept hg (by have := h.2.2.2.2.2; simp; omega), hb, h.2.2.2⟩

theorem frow_snoc {w : World} {g n cap : Nat} {l : List Bool} {b : Bool} (h : w.ownsRow 0 4 1 (.slice (some ⟨g, 0, none⟩) (n + 1) cap) (n + 1) (l.map Value.bool ++ [.bool b])) : FRow w g (n + 1) cap (l ++ [b]) := by
  unfold FRow
  rw [List.map_append]
  exact h
theorem oneCell_bool (b : Bool) : ∀ u ∈ [Value.bool b], u.oneCell' = true := by
  intro u hu
  simp at hu
  subst hu
  rfl
theorem oneCell_two (a b : Int) : ∀ u ∈ [Value.int .u8 a, Value.int .u8 b], u.oneCell' = true := by
  intro u hu
  simp at hu
  rcases hu with rfl | rfl <;> rfl
theorem brow_two {w : World} {g n cap : Nat} {l : List Int} {a b : Int} (h : w.ownsRow 0 5 1 (.slice (some ⟨g, 0, none⟩) (n + 2) cap) (n + 2) (bc l ++ [.int .u8 a, .int .u8 b])) : BRow w g (n + 2) cap (l ++ [a, b]) := by
  unfold BRow
  rw [bc_append]
  exact h

end Go.Proofs.Qxb6001517a
