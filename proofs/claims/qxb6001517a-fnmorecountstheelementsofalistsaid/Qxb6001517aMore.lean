/-
  more; skipValue at an element; ZZMore, ZZSkipValue: the walks.
-/
import Derived.Test.Qxb6001517aSpace
import Derived.Test.Qxb6001517aListPlain
namespace Go.Proofs.Qxb6001517a
open Go.RowKit

/-- skipSpace over blanks. -/
theorem skipBlanks32 (hs g cap : Nat) (l b r : List Int) (c : Int) (p : Nat) (w : World) (hS : Scan w hs g cap l p) (hN : l.length ≤ 16777216) (hl : l.drop p = b ++ c :: r) (hb : Blanks b) (hc : isB c = false) (u0 : 0 ≤ c) (u1 : c ≤ 255) :
    Calls Try.prog 32 #[.pointer (some ⟨hs, 0, none⟩)] w fun e w' => e = .returned (.tuple #[]) ∧ Scan w' hs g cap l (p + b.length) ∧ w.grownBy w' (some hs) := by
  obtain ⟨hg, hlt⟩ := getD_drop_cons hl
  have hin : ∀ i, p ≤ i → i < p + b.length → isB (l.getD i 0) = true := fun i h0 h1 => by
    rw [getD_of_drop hl h0 h1]
    refine hb _ ?_
    rw [List.getD_eq_getElem?_getD, List.getElem?_eq_getElem (by omega)]
    exact List.getElem_mem _
  refine skipSpace32 hs g cap l p b.length w hS hN hlt (fun i h0 h1 => ?_) hin (by rw [hg]; exact hc)
  by_cases h : i < p + b.length
  · exact blanks_u8 (hin i h0 h)
  · obtain rfl : i = p + b.length := by omega
    rw [hg]
    exact ⟨u0, u1⟩

theorem bare_ok {hs g cap : Nat} {l e r : List Int} {c : Int} {p : Nat} {w : World} (hS : Scan w hs g cap l p) (hN : l.length ≤ 16777216) (hl : l.drop p = e ++ c :: r) (hc : isStop c = true) (u0 : 0 ≤ c) (u1 : c ≤ 255)
    (he : ∀ j, j < e.length → isStop (e.getD j 0) = false ∧ 0 ≤ e.getD j 0 ∧ e.getD j 0 ≤ 255) (h0 : 0 < e.length) (q : (e.getD 0 0 == 34) = false ∧ (e.getD 0 0 == 123) = false ∧ (e.getD 0 0 == 91) = false) :
    Calls Try.prog 25 #[.pointer (some ⟨hs, 0, none⟩)] w fun e' w' => e' = .returned (.tuple #[]) ∧ Scan w' hs g cap l (p + e.length) ∧ w.grownBy w' (some hs) := by
  obtain ⟨hg, hlt⟩ := getD_drop_cons hl
  have hp : l.getD p 0 = e.getD 0 0 := by rw [getD_of_drop hl (Nat.le_refl _) (by omega), Nat.sub_self]
  refine skipBare25 hs g cap l p e.length w hS hN hlt (fun i i0 i1 => ?_) (fun i i0 i1 => ?_) (by rw [hg]; exact hc) (by rw [hp]; exact q.1) (by rw [hp]; exact q.2.1) (by rw [hp]; exact q.2.2)
  · by_cases h : i < p + e.length
    · rw [getD_of_drop hl i0 h]
      exact (he (i - p) (by omega)).2
    · obtain rfl : i = p + e.length := by omega
      rw [hg]
      exact ⟨u0, u1⟩
  · rw [getD_of_drop hl i0 i1]
    exact (he (i - p) (by omega)).1

def contT : List (List Int) := [[91], [49], [44], [123], [34, 97, 34], [58], [91], [93], [125], [93]]
theorem contT_ok : Cont contT := by
  refine ⟨fun t ht => ?_, fun j h0 h1 => (by decide : ∀ j, j < contT.length → 0 < j → 1 ≤ dsum (contT.take j)) j h1 h0, by decide, by decide⟩
  simp only [contT, List.mem_cons, List.not_mem_nil, or_false] at ht
  rcases ht with rfl | rfl | rfl | rfl | rfl | rfl | rfl | rfl | rfl | rfl
  case inr.inr.inr.inr.inl =>
    refine .inr ⟨[97, 34], rfl, fun rest => ?_⟩
    show strEnd (97 :: 34 :: rest) = some 2
    simp [strEnd, strEnd_quote]
  all_goals exact .inl ⟨_, rfl, by decide⟩

/-- skipValue at an element. -/
theorem skipElem25 (hs g cap : Nat) (l e r : List Int) (c : Int) (p : Nat) (w : World) (hS : Scan w hs g cap l p) (hN : l.length ≤ 16777216) (hE : Elem e) (hl : l.drop p = e ++ c :: r) (hc : isStop c = true) (u0 : 0 ≤ c) (u1 : c ≤ 255) :
    Calls Try.prog 25 #[.pointer (some ⟨hs, 0, none⟩)] w fun e' w' => e' = .returned (.tuple #[]) ∧ Scan w' hs g cap l (p + e.length) ∧ w.grownBy w' (some hs) := by
  obtain ⟨_, hlt⟩ := getD_drop_cons hl
  rcases hE with rfl | rfl | rfl | rfl
  · exact bare_ok hS hN hl hc u0 u1 (by decide) (by decide) (by decide)
  · have h1 : l.drop (p + 1) = [120, 44, 93, 92, 34, 34] ++ c :: r := by
      rw [← List.drop_drop, hl]
      rfl
    have hp : l.getD p 0 = 34 := by rw [getD_of_drop hl (Nat.le_refl _) (by simp), Nat.sub_self]; rfl
    have h2 : strEnd (l.drop (p + 1)) = some 6 := by
      rw [h1]
      show strEnd (120 :: 44 :: 93 :: 92 :: 34 :: 34 :: c :: r) = some 6
      simp [strEnd]
    exact skipStr25 hs g cap l p 6 w hS hN (by omega) hp h2
  · exact skipCont25 hs g cap l (c :: r) contT p w hS hN contT_ok hl (by omega)
  · exact bare_ok hS hN hl hc u0 u1 (by decide) (by decide) (by decide)

/-- What the callers need of a walk on a scan. -/
def Moves (f : Nat) (v : Value) (hs g cap : Nat) (l : List Int) (p Q : Nat) : Prop :=
  ∀ w, Scan w hs g cap l p → Calls Try.prog f #[.pointer (some ⟨hs, 0, none⟩)] w fun e w' => e = .returned v ∧ Scan w' hs g cap l Q ∧ w.grownBy w' (some hs)

set_option maxHeartbeats 2000000 in
theorem moreFirst29 (hs g cap : Nat) (l b r : List Int) (c : Int) (p : Nat) (hN : l.length ≤ 16777216) (hl : l.drop p = b ++ c :: r) (hb : Blanks b) (hc : isB c = false) (u0 : 0 ≤ c) (u1 : c ≤ 255)
    (q1 : (c == 44) = false) (q2 : (c == 125) = false) (q3 : (c == 93) = false) (q4 : (c == 0) = false) : Moves 29 (.bool true) hs g cap l p (p + b.length) := by
  intro w hS
  have H1 : Hid (Calls Try.prog 32 #[.pointer (some ⟨hs, 0, none⟩)] w fun e w' => e = .returned (.tuple #[]) ∧ Scan w' hs g cap l (p + b.length) ∧ w.grownBy w' (some hs)) := skipBlanks32 hs g cap l b r c p w hS hN hl hb hc u0 u1
  obtain ⟨hg, hlt⟩ := getD_drop_cons hl
  obtain ⟨P, hP⟩ : ∃ P, P = p + b.length := ⟨_, rfl⟩
  rw [← hP] at H1 hg hlt ⊢
  have HG : Hid (l.getD P 0 = c) := hg
  clear hP hg hl hb hc hS u0 u1
  go_enter Try.func29, Try.ntmps29
  go_wp2_with fail
  refine H1.out.mono ?_
  rintro x8 w8 ⟨rfl, hsc, hgr8⟩
  have HSC : Hid (Scan w8 hs g cap l P) := hsc
  clear hsc H1
  go_wp2_with fail
  have HPK := peek30 hs g cap l P w8 HSC.out hN hlt
  rw [HG.out] at HPK
  refine HPK.mono ?_
  rintro x9 w9 ⟨rfl, q9, rfl⟩
  clear HPK
  go_wp2_with fail
  go_ret
  exact ⟨rfl, HSC.out.drewN _, grown_trans hgr8 (grown_drewN _ _ _)⟩

set_option maxHeartbeats 2000000 in
theorem moreComma29 (hs g cap : Nat) (l b b2 r : List Int) (c : Int) (p : Nat) (hN : l.length ≤ 16777216) (hl : l.drop p = b ++ 44 :: (b2 ++ c :: r)) (hb : Blanks b) (hb2 : Blanks b2) (hc : isB c = false) (u0 : 0 ≤ c) (u1 : c ≤ 255) : Moves 29 (.bool true) hs g cap l p (p + b.length + 1 + b2.length) := by
  intro w hS
  have H1 : Hid (Calls Try.prog 32 #[.pointer (some ⟨hs, 0, none⟩)] w fun e w' => e = .returned (.tuple #[]) ∧ Scan w' hs g cap l (p + b.length) ∧ w.grownBy w' (some hs)) := skipBlanks32 hs g cap l b _ 44 p w hS hN hl hb (by decide) (by decide) (by decide)
  obtain ⟨hg, hlt⟩ := getD_drop_cons hl
  have hl2 : l.drop (p + b.length + 1) = b2 ++ c :: r := by
    rw [← List.drop_drop, drop_more hl]
    rfl
  have H2 : Hid (∀ wx, Scan wx hs g cap l (p + b.length + 1) → Calls Try.prog 32 #[.pointer (some ⟨hs, 0, none⟩)] wx fun e w' => e = .returned (.tuple #[]) ∧ Scan w' hs g cap l (p + b.length + 1 + b2.length) ∧ wx.grownBy w' (some hs)) := fun wx hx => skipBlanks32 hs g cap l b2 r c _ wx hx hN hl2 hb2 hc u0 u1
  obtain ⟨P, hP⟩ : ∃ P, P = p + b.length := ⟨_, rfl⟩
  rw [← hP] at H1 H2 hg hlt ⊢
  obtain ⟨Q, hQ⟩ : ∃ Q, Q = P + 1 + b2.length := ⟨_, rfl⟩
  rw [← hQ] at H2 ⊢
  have HG : Hid (l.getD P 0 = 44) := hg
  clear hP hQ hg hl hl2 hb hb2 hc hS u0 u1
  go_enter Try.func29, Try.ntmps29
  go_wp2_with fail
  refine H1.out.mono ?_
  rintro x8 w8 ⟨rfl, hsc, hgr8⟩
  have HSC : Hid (Scan w8 hs g cap l P) := hsc
  obtain ⟨r0, r1, r2, r3, r4⟩ := hsc
  clear r3 r4 r0 H1
  go_wp2_with fail
  have HPK := peek30 hs g cap l P w8 HSC.out hN hlt
  rw [HG.out] at HPK
  refine HPK.mono ?_
  rintro x9 w9 ⟨rfl, q9, rfl⟩
  clear HPK
  go_wp2_with fail
  refine (H2.out _ ((HSC.out.drewN _).setI (P + 1) (by omega))).mono ?_
  rintro x7 w7 ⟨rfl, hsc7, hgr7⟩
  have HSC7 : Hid (Scan w7 hs g cap l Q) := hsc7
  clear hsc7 H2
  go_wp2_with fail
  go_ret
  exact ⟨rfl, HSC7.out, grown_trans hgr8 (grown_trans (grown_drewN _ _ _) (grown_trans (grown_set _ _ _) hgr7))⟩

set_option maxHeartbeats 2000000 in
theorem moreEnd29 (hs g cap : Nat) (l b r : List Int) (p : Nat) (hN : l.length ≤ 16777216) (hl : l.drop p = b ++ 93 :: r) (hb : Blanks b) : Moves 29 (.bool false) hs g cap l p (p + b.length + 1) := by
  intro w hS
  have H1 : Hid (Calls Try.prog 32 #[.pointer (some ⟨hs, 0, none⟩)] w fun e w' => e = .returned (.tuple #[]) ∧ Scan w' hs g cap l (p + b.length) ∧ w.grownBy w' (some hs)) := skipBlanks32 hs g cap l b _ 93 p w hS hN hl hb (by decide) (by decide) (by decide)
  obtain ⟨hg, hlt⟩ := getD_drop_cons hl
  obtain ⟨P, hP⟩ : ∃ P, P = p + b.length := ⟨_, rfl⟩
  rw [← hP] at H1 hg hlt ⊢
  have HG : Hid (l.getD P 0 = 93) := hg
  clear hP hg hl hb hS
  go_enter Try.func29, Try.ntmps29
  go_wp2_with fail
  refine H1.out.mono ?_
  rintro x8 w8 ⟨rfl, hsc, hgr8⟩
  have HSC : Hid (Scan w8 hs g cap l P) := hsc
  obtain ⟨r0, r1, r2, r3, r4⟩ := hsc
  clear r3 r4 r0 H1
  go_wp2_with fail
  have HPK := peek30 hs g cap l P w8 HSC.out hN hlt
  rw [HG.out] at HPK
  refine HPK.mono ?_
  rintro x9 w9 ⟨rfl, q9, rfl⟩
  clear HPK
  go_wp2_with fail
  go_ret
  exact ⟨rfl, (HSC.out.drewN _).setI (P + 1) (by omega), grown_trans hgr8 (grown_trans (grown_drewN _ _ _) (grown_set _ _ _))⟩

/-- A row of bytes that is only read. -/
def RRow (w : World) (g n : Nat) (l : List Int) : Prop := l.length = n ∧ g < w.heap.size ∧ ∀ i, i < n → w.cell? ⟨g, i, none⟩ = some (.int .u8 (l.getD i 0))
theorem BRow.rrow {w : World} {g n cap : Nat} {l : List Int} (h : BRow w g n cap l) : RRow w g n l := ⟨h.len, h.lt, fun i hi => h.cell i hi⟩
theorem RRow.below {w w' : World} {g n : Nat} {l : List Int} (h : RRow w g n l) (hb : Below w.heap.size w w') : RRow w' g n l :=
  ⟨h.1, Nat.lt_of_lt_of_le h.2.1 hb.size, fun i hi => (hb.cell (p := ⟨g, i, none⟩) h.2.1).trans (h.2.2 i hi)⟩

/-- A new scan over a row. -/
theorem scan_new2 {w : World} {g n : Nat} (cap : Nat) {l : List Int} (h : RRow w g n l) (p : Nat) : Scan (w.alloc (.cells #[.slice (some ⟨g, 0, none⟩) n cap, .int .i64 (p : Int)] 34)) w.heap.size g cap l p := by
  have hl := h.1
  have hlt := h.2.1
  have hb : Below w.heap.size w (w.alloc (.cells #[.slice (some ⟨g, 0, none⟩) n cap, .int .i64 (p : Int)] 34)) := (Below.refl _ _).alloc (Nat.le_refl _) _
  refine ⟨?_, ?_, ?_, fun i hi => ?_, by omega⟩
  · rw [hl]; simp
  · simp
  · simp
  · exact (h.below hb).2.2 i (by omega)

set_option maxHeartbeats 1000000 in
theorem zzSkipV15 (g n cap : Nat) (l : List Int) (p Q : Nat) (w : World) (hB : RRow w g n l) (hM : ∀ hs, Moves 25 (.tuple #[]) hs g cap l p Q) :
    Calls Try.prog 15 #[.slice (some ⟨g, 0, none⟩) n cap, .int .i64 (p : Int)] w fun e w' => e = .returned (.int .i64 (Q : Int)) ∧ Below w.heap.size w w' := by
  have HC2 : Hid (Calls Try.prog 25 #[.pointer (some ⟨w.heap.size, 0, none⟩)] (w.alloc (.cells #[.slice (some ⟨g, 0, none⟩) n cap, .int .i64 (p : Int)] 34)) fun e w' => e = .returned (.tuple #[]) ∧ Scan w' w.heap.size g cap l Q ∧ (w.alloc (.cells #[.slice (some ⟨g, 0, none⟩) n cap, .int .i64 (p : Int)] 34)).grownBy w' (some w.heap.size)) := hM _ _ (scan_new2 cap hB p)
  clear hB hM
  go_enter Try.func15, Try.ntmps15
  go_wp2_with fail
  refine HC2.out.mono ?_
  rintro e w1 ⟨rfl, hsc, hgr⟩
  have c1 := hsc.2.1
  have hb1 : Below w.heap.size w w1 := ((Below.refl _ _).alloc (Nat.le_refl _) _).grown hgr (by simp) (fun g hg => by cases hg; exact Nat.le_refl _)
  clear hsc hgr HC2
  go_wp2
  go_ret
  exact ⟨rfl, hb1⟩

set_option maxHeartbeats 1000000 in
theorem zzMore20 (g n cap : Nat) (l : List Int) (p Q : Nat) (v : Bool) (w : World) (hB : RRow w g n l) (hM : ∀ hs, Moves 29 (.bool v) hs g cap l p Q) :
    Calls Try.prog 20 #[.slice (some ⟨g, 0, none⟩) n cap, .int .i64 (p : Int)] w fun e w' => e = .returned (.tuple #[.bool v, .int .i64 (Q : Int)]) ∧ Below w.heap.size w w' := by
  have HC2 : Hid (Calls Try.prog 29 #[.pointer (some ⟨w.heap.size, 0, none⟩)] (w.alloc (.cells #[.slice (some ⟨g, 0, none⟩) n cap, .int .i64 (p : Int)] 34)) fun e w' => e = .returned (.bool v) ∧ Scan w' w.heap.size g cap l Q ∧ (w.alloc (.cells #[.slice (some ⟨g, 0, none⟩) n cap, .int .i64 (p : Int)] 34)).grownBy w' (some w.heap.size)) := hM _ _ (scan_new2 cap hB p)
  clear hB hM
  go_enter Try.func20, Try.ntmps20
  go_wp2_with fail
  refine HC2.out.mono ?_
  rintro e w1 ⟨rfl, hsc, hgr⟩
  have c1 := hsc.2.1
  have hb1 : Below w.heap.size w w1 := ((Below.refl _ _).alloc (Nat.le_refl _) _).grown hgr (by simp) (fun g hg => by cases hg; exact Nat.le_refl _)
  clear hsc hgr HC2
  go_wp2_with fail
  go_quiet (fail)
  go_wp2_with fail
  go_ret2
  exact ⟨rfl, hb1.grown (grown_drewN _ _ none) hb1.size (fun g hg => by cases hg)⟩

/-- Where an item is left: more says so and stands at its element. -/
theorem turn_item {suf t l : List Int} {k p : Nat} (g cap : Nat) (h : Turn suf (k + 1) t) (hN : l.length ≤ 16777216) (hp : p ≤ l.length) (hl : l.drop p = t) :
    ∃ Q e r, Elem e ∧ Tail suf k r ∧ l.drop Q = e ++ r ∧ Q ≤ l.length ∧ ∀ hs, Moves 29 (.bool true) hs g cap l p Q := by
  have hlen := congrArg List.length hl
  rw [List.length_drop] at hlen
  cases h with
  | tail _ _ h =>
    cases h with
    | item b1 b2 e r _ h1 h2 he hr =>
      obtain ⟨c, e', rfl, q0, q1, q2, q3, q4, u0, u1⟩ := elem_first he
      refine ⟨p + b1.length + 1 + b2.length, c :: e', r, he, hr, ?_, ?_, fun hs => moreComma29 hs g cap l b1 b2 (e' ++ r) c p hN hl h1 h2 q0 u0 u1⟩
      · rw [show p + b1.length + 1 + b2.length = p + (b1.length + (1 + b2.length)) by omega, ← List.drop_drop, hl, ← List.drop_drop, List.drop_left, ← List.drop_drop]
        exact List.drop_left
      · simp at hlen
        omega
  | first b e r _ hb he hr =>
    obtain ⟨c, e', rfl, q0, q1, q2, q3, q4, u0, u1⟩ := elem_first he
    refine ⟨p + b.length, c :: e', r, he, hr, drop_more hl, ?_, fun hs => moreFirst29 hs g cap l b (e' ++ r) c p hN hl hb q0 u0 u1 q1 q2 q3 q4⟩
    simp at hlen
    omega

/-- Where none is left: more says so and stands behind the bracket. -/
theorem turn_end {suf t l : List Int} {p : Nat} (g cap : Nat) (h : Turn suf 0 t) (hN : l.length ≤ 16777216) (hp : p ≤ l.length) (hl : l.drop p = t) :
    ∃ Q, Q + suf.length = l.length ∧ ∀ hs, Moves 29 (.bool false) hs g cap l p Q := by
  have hlen := congrArg List.length hl
  rw [List.length_drop] at hlen
  cases h with
  | tail _ _ h =>
    cases h with
    | done b hb =>
      refine ⟨p + b.length + 1, ?_, fun hs => moreEnd29 hs g cap l b suf p hN hl hb⟩
      simp at hlen
      omega

/-- skipValue at an element, ahead of a tail. -/
theorem turn_skip {suf e r l : List Int} {k p : Nat} (g cap : Nat) (he : Elem e) (hr : Tail suf k r) (hN : l.length ≤ 16777216) (hp : p ≤ l.length) (hl : l.drop p = e ++ r) :
    (∀ hs, Moves 25 (.tuple #[]) hs g cap l p (p + e.length)) ∧ l.drop (p + e.length) = r ∧ p + e.length ≤ l.length := by
  have hlen := congrArg List.length hl
  rw [List.length_drop, List.length_append] at hlen
  obtain ⟨c, r', rfl, hc, u0, u1⟩ := tail_stop hr
  have := elem_len he
  exact ⟨fun hs w hS => skipElem25 hs g cap l e r' c p w hS hN he hl hc u0 u1, drop_more hl, by omega⟩

end Go.Proofs.Qxb6001517a
