/-
  ZZSkipValue at a container; FnSkipValueSpansAContainerBuiltByScript: the walks.
-/
import Derived.Test.Qxb6001517aSkip
import Derived.Test.Qxb6001517aBuild
namespace Go.Proofs.Qxb6001517a
open Go.RowKit

/-- A new scan over a row. -/
theorem scan_new {w : World} {g n cap : Nat} {l : List Int} (h : BRow w g n cap l) (p : Nat) : Scan (w.alloc (.cells #[.slice (some ⟨g, 0, none⟩) n cap, .int .i64 (p : Int)] 34)) w.heap.size g cap l p := by
  have hl := h.len
  have hlt := h.lt
  refine ⟨?_, ?_, ?_, fun i hi => ?_, by omega⟩
  · rw [hl]; simp
  · simp
  · simp
  · rw [(h.alloc _).cell i (by omega)]

set_option maxHeartbeats 1000000 in
theorem zzSkip15 (g n cap : Nat) (l rest : List Int) (T : List (List Int)) (p : Nat) (w : World) (hB : BRow w g n cap l) (hN : n ≤ 16777216) (hT : Cont T) (hl : l.drop p = T.flatten ++ rest) (hp : p ≤ n) :
    Calls Try.prog 15 #[.slice (some ⟨g, 0, none⟩) n cap, .int .i64 (p : Int)] w fun e w' => e = .returned (.int .i64 ((p + T.flatten.length : Nat) : Int)) ∧ Below w.heap.size w w' := by
  have hlen := hB.len
  have HC := skipCont25 w.heap.size g cap l rest T p _ (scan_new hB p) (by omega) hT hl (by omega)
  obtain ⟨Q, hQ⟩ : ∃ Q, Q = p + T.flatten.length := ⟨_, rfl⟩
  rw [← hQ] at HC ⊢
  clear hQ
  have HC2 : Hid (Calls Try.prog 25 #[.pointer (some ⟨w.heap.size, 0, none⟩)] (w.alloc (.cells #[.slice (some ⟨g, 0, none⟩) n cap, .int .i64 (p : Int)] 34)) fun e w' => e = .returned (.tuple #[]) ∧ Scan w' w.heap.size g cap l Q ∧ (w.alloc (.cells #[.slice (some ⟨g, 0, none⟩) n cap, .int .i64 (p : Int)] 34)).grownBy w' (some w.heap.size)) := HC
  clear HC hB hT hl hlen hp
  go_enter Try.func15, Try.ntmps15
  go_wp2_with fail
  refine HC2.out.mono ?_
  rintro e w1 ⟨rfl, hsc, hgr⟩
  have c1 := hsc.2.1
  have hb1 : Below w.heap.size w w1 := ((Below.refl _ _).alloc (Nat.le_refl _) _).grown hgr (by simp) (fun g hg => by cases hg; exact Nat.le_refl _)
  clear hsc hgr HC2
  go_wp2
  go_ret
  exact ⟨rfl, hb1⟩

/-- It returns a bool r of which 'p r' holds. -/
def RetBool (p : Bool → Prop) (e : Ending) : Prop := ∃ r : Bool, e = .returned (.bool r) ∧ p r

set_option maxHeartbeats 1000000 in
theorem bytes13 (a0 a1 a2 : Option Addr) (n0 c0 n1 c1 n2 c2 : Nat) (w : World) (h0 : n0 ≤ maxLen) (h1 : n1 ≤ maxLen) (h2 : n2 ≤ maxLen) :
    Calls Try.prog 13 #[.slice a0 n0 c0, .slice a1 n1 c1, .slice a2 n2 c2] w fun e w' => w' = w ∧ RetBool (fun r => r = true → n0 + n1 + n2 ≤ 1048576) e := by
  unfold maxLen at h0 h1 h2
  by_cases h : n0 + n1 + n2 ≤ 1048576
  · go_enter Try.func13, Try.ntmps13
    go_wp2
    go_ret
    exact ⟨rfl, true, rfl, by first | exact fun _ => h | exact trivial⟩
  · go_enter Try.func13, Try.ntmps13
    go_wp2
    all_goals
      go_ret
      exact ⟨rfl, false, rfl, by simp⟩

set_option maxRecDepth 1000000 in
set_option maxHeartbeats 4000000 in
theorem law4 (a0 : Option Addr) (n0 c0 : Nat) (l0 : List Int) (b0 o0 : Nat) (a1 : Option Addr) (n1 c1 : Nat) (l1 : List Int) (b1 o1 : Nat) (a2 : Option Addr) (n2 c2 : Nat) (l2 : List Int) (b2 o2 : Nat) (w : World)
    (h0 : ARow w a0 n0 l0 b0 o0) (h1 : ARow w a1 n1 l1 b1 o1) (h2 : ARow w a2 n2 l2 b2 o2) (hz : ∀ z ∈ l1, 0 ≤ z ∧ z ≤ 255) (m0 : n0 ≤ maxLen) (m1 : n1 ≤ maxLen) (m2 : n2 ≤ maxLen) :
    Calls Try.prog 4 #[.slice a0 n0 c0, .slice a1 n1 c1, .slice a2 n2 c2] w fun e w' => e = .returned (.bool true) ∧ Below w.heap.size w w' := by
  obtain ⟨i5, hi5, y0, y1, y2⟩ := info_parts Try.info5
  have H0 : Hid (ARow w a0 n0 l0 b0 o0) := h0
  have H1 : Hid (ARow w a1 n1 l1 b1 o1) := h1
  have H2 : Hid (ARow w a2 n2 l2 b2 o2) := h2
  have HZ : Hid (∀ z ∈ l1, 0 ≤ z ∧ z ≤ 255) := hz
  clear h0 h1 h2 hz
  go_enter Try.func4, Try.ntmps4
  go_wp2_with fail
  refine (bytes13 a0 a1 a2 n0 c0 n1 c1 n2 c2 w m0 m1 m2).mono ?_
  rintro e w' ⟨rfl, r, rfl, hr⟩
  cases r with
  | false =>
    go_wp2
    go_ret
    exact ⟨rfl, Below.refl _ _⟩
  | true =>
    have hbd := hr rfl
    clear hr m0 m1 m2
    have HBD : Hid (n0 + n1 + n2 ≤ 1048576) := hbd
    by_cases q0 : n0 ≤ 65536
    rotate_left
    · have d0 : decide (65536 < (n0 : Int)) = true := decide_eq_true (by omega)
      clear q0
      go_wp2
      go_ret
      exact ⟨rfl, Below.refl _ _⟩
    have d0 : decide (65536 < (n0 : Int)) = false := decide_eq_false (by omega)
    by_cases q1 : n1 ≤ 32768
    rotate_left
    · have d1 : decide (32768 < (n1 : Int)) = true := decide_eq_true (by omega)
      clear q1
      go_wp2
      go_ret
      exact ⟨rfl, Below.refl _ _⟩
    have d1 : decide (32768 < (n1 : Int)) = false := decide_eq_false (by omega)
    by_cases q2 : n2 ≤ 65536
    rotate_left
    · have d2 : decide (65536 < (n2 : Int)) = true := decide_eq_true (by omega)
      clear q2
      go_wp2
      go_ret
      exact ⟨rfl, Below.refl _ _⟩
    have d2 : decide (65536 < (n2 : Int)) = false := decide_eq_false (by omega)
    cases dq : decide (1048576 < (n0 : Int) + 24 * (n1 : Int) + (n2 : Int) + 2) with
    | true =>
      go_wp2
      go_ret
      exact ⟨rfl, Below.refl _ _⟩
    | false =>
      clear hbd
      go_wp2_with fail
      refine (clone9 a0 n0 c0 l0 b0 o0 _ H0.out (by omega)).mono ?_
      rintro e w1 ⟨hb1, a0', c0', b0', rfl, hr0, hlt0⟩
      have H1a : Hid (ARow w1 a1 n1 l1 b1 o1) := H1.out.below hb1 (fun h => (H1.out.2.1 h).2)
      have H2a : Hid (ARow w1 a2 n2 l2 b2 o2) := H2.out.below hb1 (fun h => (H2.out.2.1 h).2)
      have H0a : Hid (ARow w1 a0' n0 l0 b0' 0) := hr0
      have HLEN : Hid (l0.length = n0) := H0.out.1
      clear hr0 H0 H1 H2
      go_wp2_with fail
      refine (clone9 a1 n1 c1 l1 b1 o1 _ H1a.out (by omega)).mono ?_
      rintro e w2 ⟨hb2, a1', c1', b1', rfl, hr1, hlt1⟩
      have H0b : Hid (ARow w2 a0' n0 l0 b0' 0) := H0a.out.below hb2 (fun h => (H0a.out.2.1 h).2)
      have H2b : Hid (ARow w2 a2 n2 l2 b2 o2) := H2a.out.below hb2 (fun h => (H2a.out.2.1 h).2)
      have H1b : Hid (ARow w2 a1' n1 l1 b1' 0) := hr1
      have hB2 : Below w'.heap.size w' w2 := hb1.trans (hb2.mono hb1.size)
      clear hr1 H0a H1a H2a hb1 hb2 hlt0 hlt1
      go_wp2_with fail
      refine (clone9 a2 n2 c2 l2 b2 o2 _ H2b.out (by omega)).mono ?_
      rintro e w3 ⟨hb3, a2', c2', b2', rfl, hr2, hlt2⟩
      have H0c : Hid (ARow w3 a0' n0 l0 b0' 0) := H0b.out.below hb3 (fun h => (H0b.out.2.1 h).2)
      have H1c : Hid (ARow w3 a1' n1 l1 b1' 0) := H1b.out.below hb3 (fun h => (H1b.out.2.1 h).2)
      have H2c : Hid (ARow w3 a2' n2 l2 b2' 0) := hr2
      have hB3 : Below w'.heap.size w' w3 := hB2.trans (hb3.mono hB2.size)
      clear hr2 H0b H1b H2b hb3 hlt2 hB2
      go_wp2_with fail
      refine (build14 a1' n1 c1' l1 b1' 0 _ H1c.out HZ.out (by omega)).mono ?_
      rintro e w4 ⟨hb4, T, gT, hT, rfl, hrT, hgT, hlT⟩
      have H0d : Hid (ARow w4 a0' n0 l0 b0' 0) := H0c.out.below hb4 (fun h => (H0c.out.2.1 h).2)
      have H2d : Hid (ARow w4 a2' n2 l2 b2' 0) := H2c.out.below hb4 (fun h => (H2c.out.2.1 h).2)
      have HTd : Hid (BRow w4 gT T.flatten.length (24 * n1 + 2) T.flatten) := hrT
      have HT : Hid (Cont T) := hT
      have hB4 : Below w'.heap.size w' w4 := hB3.trans (hb4.mono hB3.size)
      clear hrT hT H0c H1c H2c hb4 hB3
      obtain ⟨N, hN⟩ : ∃ N, N = T.flatten.length := ⟨_, rfl⟩
      rw [← hN] at HTd hlT ⊢
      have HN : Hid (N = T.flatten.length) := hN
      clear hN
      go_wp2_with (at_make; refine wpList_make_own _ rfl _ _ 22 rfl 0 5 i5 (.int .u8 0) 1 Try.underlying22 hi5 y0 y1 .i64 .i64 _ (n0 + N + n2) rfl rfl (by first | omega | simp) ?m2 ?m3 (Nat.zero_le _) ?_)
      case m2 => rw [y2]; omega
      case m3 => unfold maxLen; omega
      intro w5 hown5 hgrow5
      have HO5 : Hid (BRow w5 w4.heap.size 0 (n0 + N + n2) []) := hown5
      have H0e : Hid (ARow w5 a0' n0 l0 b0' 0) := H0d.out.kept hgrow5 (fun _ => by simp)
      have H2e : Hid (ARow w5 a2' n2 l2 b2' 0) := H2d.out.kept hgrow5 (fun _ => by simp)
      have HTe : Hid (BRow w5 gT N (24 * n1 + 2) T.flatten) := HTd.out.kept hgrow5 (by simp)
      have f0 : 0 < n0 → b0' ≠ w4.heap.size := fun h => by have := (H0d.out.2.1 h).2; omega
      have f2 : 0 < n2 → b2' ≠ w4.heap.size := fun h => by have := (H2d.out.2.1 h).2; omega
      have fT : gT ≠ w4.heap.size := by have := HTd.out.lt; omega
      have hB5 : Below w'.heap.size w' w5 := hB4.grown hgrow5 hB4.size (fun g hg => by cases hg)
      have hgG : w'.heap.size ≤ w4.heap.size := hB4.size
      obtain ⟨G, hG⟩ : ∃ G, G = w4.heap.size := ⟨_, rfl⟩
      rw [← hG] at HO5 f0 f2 fT hgG ⊢
      clear hown5 hgrow5 H0d H2d HTd hB4 hG
      go_wp2_with fail
      refine (append10 G 0 (n0 + N + n2) [] a0' n0 c0' l0 b0' 0 _ HO5.out H0e.out f0 (by omega) (by omega)).mono ?_
      rintro e w6 ⟨rfl, hB6, hg6⟩
      have HO6 : Hid (BRow w6 G n0 (n0 + N + n2) l0) := by simpa [Hid] using hB6
      have H2f : Hid (ARow w6 a2' n2 l2 b2' 0) := H2e.out.kept hg6 (fun h => by have := f2 h; simpa using this)
      have HTf : Hid (BRow w6 gT N (24 * n1 + 2) T.flatten) := HTe.out.kept hg6 (by simpa using fT)
      have HB6 : Below w'.heap.size w' w6 := hB5.grown hg6 hB5.size (fun g hg => by cases hg; exact hgG)
      clear hB6 hg6 H2e HTe hB5 HO5
      go_wp2_with fail
      refine (append10 G n0 (n0 + N + n2) l0 (some ⟨gT, 0, none⟩) N (24 * n1 + 2) T.flatten gT 0 _ HO6.out HTf.out.arow (fun _ => fT) (by omega) (by omega)).mono ?_
      rintro e w7 ⟨rfl, hB7, hg7⟩
      have HO7 : Hid (BRow w7 G (n0 + N) (n0 + N + n2) (l0 ++ T.flatten)) := hB7
      have H2g : Hid (ARow w7 a2' n2 l2 b2' 0) := H2f.out.kept hg7 (fun h => by have := f2 h; simpa using this)
      have HB7 : Below w'.heap.size w' w7 := HB6.grown hg7 HB6.size (fun g hg => by cases hg; exact hgG)
      clear hB7 hg7 H2f HTf HB6 HO6
      go_wp2_with fail
      refine (append10 G (n0 + N) (n0 + N + n2) (l0 ++ T.flatten) a2' n2 c2' l2 b2' 0 _ HO7.out H2g.out f2 (by omega) (by omega)).mono ?_
      rintro e w8 ⟨rfl, hB8, hg8⟩
      have HB8 : Below w'.heap.size w' w8 := HB7.grown hg8 HB7.size (fun g hg => by cases hg; exact hgG)
      have hdrop : ((l0 ++ T.flatten) ++ l2).drop n0 = T.flatten ++ l2 := by
        rw [List.append_assoc]
        exact List.drop_left' HLEN.out
      have HZS : Hid (Calls Try.prog 15 #[.slice (some ⟨G, 0, none⟩) (n0 + N + n2) (n0 + N + n2), .int .i64 (n0 : Int)] w8 fun e w' => e = .returned (.int .i64 ((n0 + N : Nat) : Int)) ∧ Below w8.heap.size w8 w') := by
        have h := zzSkip15 G (n0 + N + n2) (n0 + N + n2) _ l2 T n0 w8 hB8 (by omega) HT.out hdrop (by omega)
        rw [← HN.out] at h
        exact h
      clear hB8 hg8 HB7 HO7 H2g hdrop
      go_wp2_with fail
      refine HZS.out.mono ?_
      rintro e w9 ⟨rfl, hb9⟩
      have HB9 : Below w'.heap.size w' w9 := HB8.trans (hb9.mono HB8.size)
      clear hb9 HB8 HZS
      go_wp2
      go_ret
      exact ⟨by first | rfl | simp, HB9⟩

end Go.Proofs.Qxb6001517a
