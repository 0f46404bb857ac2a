/-
  Documents joined and split again: the plain law.
-/
import Derived.Test.Qxb6001354aPlain
namespace Go.Proofs.Qxb6001354a

def glue : List UInt8 := [10, 45, 45, 45, 10]
def joinL : List (List UInt8) → List UInt8
  | [] => []
  | [d] => d
  | d :: e :: r => d ++ (glue ++ joinL (e :: r))

/-- What the law asks of a document. -/
def good (d : List UInt8) : Prop := d ≠ [] ∧ headOk d ∧ lastOk d ∧ cnt d = 0

theorem joinL_snoc : ∀ (ds : List (List UInt8)) (d : List UInt8), ds ≠ [] → joinL (ds ++ [d]) = joinL ds ++ (glue ++ d)
  | [], _, h => absurd rfl h
  | [a], d, _ => rfl
  | a :: b :: r, d, _ => by
    have ih := joinL_snoc (b :: r) d (by simp)
    show joinL (a :: b :: (r ++ [d])) = _
    simp only [joinL]
    rw [show b :: (r ++ [d]) = (b :: r) ++ [d] from rfl, ih]
    simp [List.append_assoc]

theorem joinL_ne {ds : List (List UInt8)} (h : ds ≠ []) (hg : ∀ d ∈ ds, good d) : joinL ds ≠ [] ∧ headOk (joinL ds) := by
  cases ds with
  | nil => exact absurd rfl h
  | cons d r =>
    obtain ⟨h1, h2, _, _⟩ := hg d List.mem_cons_self
    obtain ⟨a, q, rfl⟩ := List.exists_cons_of_ne_nil h1
    cases r with
    | nil => exact ⟨by simp [joinL], h2⟩
    | cons e r =>
      refine ⟨by simp [joinL], fun b s hb => ?_⟩
      simp only [joinL, List.cons_append, List.cons.injEq] at hb
      rw [← hb.1]
      exact h2 a q rfl

theorem trimR_self {d : List UInt8} (h : lastOk d) : trimR d = d := trimR_eq (z := []) (by simp) (fun c hc => by cases hc) h

/-- The first separator behind a document is the one that was laid there. -/
theorem index_join (d rest : List UInt8) (hc : cnt d = 0) : Lib.index (d ++ (glue ++ rest)) sepL = d.length := by
  refine Lib.index_first ?_ ?_ ?_
  · rw [List.length_append]; omega
  · unfold Lib.occAt
    rw [List.drop_left]
    rfl
  · intro j hj
    cases ho : Lib.occAt (d ++ (glue ++ rest)) sepL j with
    | false => rfl
    | true =>
      exfalso
      unfold Lib.occAt at ho
      rw [List.isPrefixOf_iff_prefix] at ho
      rw [List.drop_append_of_le_length (Nat.le_of_lt hj)] at ho
      by_cases h4 : j + 4 ≤ d.length
      · have h1 : sepL <+: d.drop j := by
          refine List.prefix_of_prefix_length_le ho (List.prefix_append _ _) ?_
          rw [List.length_drop]
          show 4 ≤ _
          omega
        have h2 := (cnt_zero_iff d).1 hc j (by omega)
        unfold Lib.occAt at h2
        rw [List.isPrefixOf_iff_prefix.2 h1] at h2
        cases h2
      · obtain ⟨q, hq⟩ := ho
        have hm : (d.drop j).length = d.length - j := List.length_drop
        have e1 : (sepL ++ q)[d.length - j]? = some 10 := by
          rw [hq, List.getElem?_append_right (by omega), hm, Nat.sub_self]
          rfl
        have h5 : d.length - j = 1 ∨ d.length - j = 2 ∨ d.length - j = 3 := by omega
        rcases h5 with h | h | h <;> rw [h] at e1 <;> simp [sepL] at e1

theorem splitL_join (ds : List (List UInt8)) (h : ds ≠ []) (hg : ∀ d ∈ ds, good d) (f : Nat) (hf : (joinL ds).length ≤ f) : splitL f (joinL ds) = ds := by
  induction f generalizing ds with
  | zero =>
    have := (joinL_ne h hg).1
    exact absurd (List.length_eq_zero_iff.1 (by omega)) this
  | succ f ih =>
    match ds, h, hg, hf with
    | [d], _, hg, _ => exact splitL_none ((index_neg_iff d).2 (hg d List.mem_cons_self).2.2.2)
    | d :: e :: r, _, hg, hf =>
      obtain ⟨_, _, h3, h4⟩ := hg d List.mem_cons_self
      have hg' : ∀ x ∈ e :: r, good x := fun x hx => hg x (List.mem_cons_of_mem _ hx)
      have hx : Lib.index (joinL (d :: e :: r)) sepL = d.length := index_join d _ h4
      have hr := joinL_ne (ds := e :: r) (by simp) hg'
      rw [splitL_some hx]
      have e1 : (joinL (d :: e :: r)).take d.length = d := by show List.take d.length (d ++ _) = d; exact List.take_left
      have e2 : ((joinL (d :: e :: r)).drop (d.length + 4)).dropWhile sp = joinL (e :: r) := by
        rw [← List.drop_drop]
        show List.dropWhile sp (List.drop 4 (List.drop d.length (d ++ _))) = _
        rw [List.drop_left]
        show List.dropWhile sp (10 :: joinL (e :: r)) = _
        rw [List.dropWhile_cons_of_pos (by decide)]
        obtain ⟨a, q, hq⟩ := List.exists_cons_of_ne_nil hr.1
        rw [hq, List.dropWhile_cons_of_neg (by rw [hr.2 a q hq]; decide)]
      rw [e1, e2, trimR_self h3, ih (e :: r) (by simp) hg' (by
        have : (joinL (d :: e :: r)).length = d.length + (5 + (joinL (e :: r)).length) := by
          show (d ++ (glue ++ joinL (e :: r))).length = _
          rw [List.length_append, List.length_append]
          rfl
        omega)]

theorem dash_join (d : List UInt8) (r : List (List UInt8)) (h : dashL.isPrefixOf d = false) : dashL.isPrefixOf (joinL (d :: r)) = false := by
  cases r with
  | nil => exact h
  | cons e r =>
    show dashL.isPrefixOf (d ++ (glue ++ joinL (e :: r))) = false
    match d, h with
    | [], _ => rfl
    | [a], _ => simp [dashL, glue, List.isPrefixOf]
    | [a, b], _ => simp [dashL, glue, List.isPrefixOf]
    | a :: b :: c :: q, h => simpa [dashL, List.isPrefixOf] using h

theorem splitT_join (d : List UInt8) (r : List (List UInt8)) (hg : ∀ x ∈ d :: r, good x) (h : dashL.isPrefixOf d = false) : splitT (joinL (d :: r)) = d :: r := by
  unfold splitT
  rw [dash_join d r h]
  exact splitL_join (d :: r) (by simp) hg _ (Nat.le_refl _)

theorem joinL_length (ds : List (List UInt8)) : (joinL ds).length ≤ tots ds + 5 * ds.length := by
  induction ds with
  | nil => simp [joinL]
  | cons d r ih =>
    cases r with
    | nil => simp [joinL, tots]
    | cons e r =>
      show (d ++ (glue ++ joinL (e :: r))).length ≤ _
      rw [List.length_append, List.length_append]
      have : glue.length = 5 := rfl
      simp only [tots, List.map_cons, List.sum_cons, List.length_cons] at ih ⊢
      omega

end Go.Proofs.Qxb6001354a
