/-
  FnMoreCountsTheElementsOfAList: the walk.
-/
import Derived.Test.Qxb6001517aMore
import Derived.Test.Qxb6001517aList
namespace Go.Proofs.Qxb6001517a
open Go.RowKit

set_option maxRecDepth 1000000 in
set_option maxHeartbeats 4000000 in
theorem law6 (a0 : Option Addr) (n0 c0 : Nat) (l0 : List Int) (b0 o0 : Nat) (a1 : Option Addr) (n1 c1 : Nat) (l1 : List Int) (b1 o1 : Nat) (a2 : Option Addr) (n2 c2 : Nat) (l2 : List Int) (b2 o2 : Nat) (w : World)
    (h0 : ARow w a0 n0 l0 b0 o0) (h1 : ARow w a1 n1 l1 b1 o1) (h2 : ARow w a2 n2 l2 b2 o2) (hz : ∀ z ∈ l0, 0 ≤ z ∧ z ≤ 255) (hz1 : ∀ z ∈ l1, 0 ≤ z ∧ z ≤ 255) (m0 : n0 ≤ maxLen) (m1 : n1 ≤ maxLen) (m2 : n2 ≤ maxLen) :
    Calls Try.prog 6 #[.slice a0 n0 c0, .slice a1 n1 c1, .slice a2 n2 c2] w fun e w' => e = .returned (.bool true) ∧ Below w.heap.size w w' := by
  obtain ⟨i5, hi5, y0, y1, y2⟩ := info_parts Try.info5
  have H0 : Hid (ARow w a0 n0 l0 b0 o0) := h0
  have H1 : Hid (ARow w a1 n1 l1 b1 o1) := h1
  have H2 : Hid (ARow w a2 n2 l2 b2 o2) := h2
  have HZ : Hid (∀ z ∈ l0, 0 ≤ z ∧ z ≤ 255) := hz
  have HZ1 : Hid (∀ z ∈ l1, 0 ≤ z ∧ z ≤ 255) := hz1
  clear h0 h1 h2 hz hz1
  go_enter Try.func6, Try.ntmps6
  go_wp2_with fail
  refine (bytes18 a0 a1 a2 n0 c0 n1 c1 n2 c2 w m0 m1 m2).mono ?_
  rintro e w' ⟨rfl, r, rfl, hr⟩
  cases r with
  | false =>
    go_wp2
    go_ret
    exact ⟨rfl, Below.refl _ _⟩
  | true =>
    have hbd := hr rfl
    clear hr m0 m1 m2
    have HBD : Hid (n0 + n1 + n2 ≤ 1048576) := hbd
    by_cases q0 : n0 ≤ 32768
    rotate_left
    · have d0 : decide (32768 < (n0 : Int)) = true := decide_eq_true (by omega)
      clear q0
      go_wp2
      go_ret
      exact ⟨rfl, Below.refl _ _⟩
    have d0 : decide (32768 < (n0 : Int)) = false := decide_eq_false (by omega)
    by_cases q1 : n1 ≤ 65536
    rotate_left
    · have d1 : decide (65536 < (n1 : Int)) = true := decide_eq_true (by omega)
      clear q1
      go_wp2
      go_ret
      exact ⟨rfl, Below.refl _ _⟩
    have d1 : decide (65536 < (n1 : Int)) = false := decide_eq_false (by omega)
    by_cases q2 : n2 ≤ 65536
    rotate_left
    · have d2 : decide (65536 < (n2 : Int)) = true := decide_eq_true (by omega)
      clear q2
      go_wp2
      go_ret
      exact ⟨rfl, Below.refl _ _⟩
    have d2 : decide (65536 < (n2 : Int)) = false := decide_eq_false (by omega)
    cases dq : decide (1048576 < 24 * (n0 : Int) + (n1 : Int) + (n2 : Int) + 8) with
    | true =>
      go_wp2
      go_ret
      exact ⟨rfl, Below.refl _ _⟩
    | false =>
      clear hbd
      go_wp2_with fail
      refine (clone9 a0 n0 c0 l0 b0 o0 _ H0.out (by omega)).mono ?_
      rintro e w1 ⟨hb1, a0', c0', b0', rfl, hr0, hlt0⟩
      have H1a : Hid (ARow w1 a1 n1 l1 b1 o1) := H1.out.below hb1 (fun h => (H1.out.2.1 h).2)
      have H2a : Hid (ARow w1 a2 n2 l2 b2 o2) := H2.out.below hb1 (fun h => (H2.out.2.1 h).2)
      have H0a : Hid (ARow w1 a0' n0 l0 b0' 0) := hr0
      have HLEN : Hid (l2.length = n2) := H2.out.1
      clear hr0 H0 H1 H2
      go_wp2_with fail
      refine (clone9 a1 n1 c1 l1 b1 o1 _ H1a.out (by omega)).mono ?_
      rintro e w2 ⟨hb2, a1', c1', b1', rfl, hr1, hlt1⟩
      have H0b : Hid (ARow w2 a0' n0 l0 b0' 0) := H0a.out.below hb2 (fun h => (H0a.out.2.1 h).2)
      have H2b : Hid (ARow w2 a2 n2 l2 b2 o2) := H2a.out.below hb2 (fun h => (H2a.out.2.1 h).2)
      have H1b : Hid (ARow w2 a1' n1 l1 b1' 0) := hr1
      have hB2 : Below w'.heap.size w' w2 := hb1.trans (hb2.mono hb1.size)
      clear hr1 H0a H1a H2a hb1 hb2 hlt0 hlt1
      go_wp2_with fail
      refine (clone9 a2 n2 c2 l2 b2 o2 _ H2b.out (by omega)).mono ?_
      rintro e w3 ⟨hb3, a2', c2', b2', rfl, hr2, hlt2⟩
      have H0c : Hid (ARow w3 a0' n0 l0 b0' 0) := H0b.out.below hb3 (fun h => (H0b.out.2.1 h).2)
      have H1c : Hid (ARow w3 a1' n1 l1 b1' 0) := H1b.out.below hb3 (fun h => (H1b.out.2.1 h).2)
      have H2c : Hid (ARow w3 a2' n2 l2 b2' 0) := hr2
      have hB3 : Below w'.heap.size w' w3 := hB2.trans (hb3.mono hB2.size)
      clear hr2 H0b H1b H2b hb3 hlt2 hB2
      go_wp2_with fail
      refine (build19 a0' n0 c0' l0 b0' 0 a1' n1 c1' l1 b1' 0 _ H0c.out H1c.out HZ.out HZ1.out q0 q1).mono ?_
      rintro e w4 ⟨hb4, t, gT, hT, rfl, hrT, hgT, hlT⟩
      have H2d : Hid (ARow w4 a2' n2 l2 b2' 0) := H2c.out.below hb4 (fun h => (H2c.out.2.1 h).2)
      have HT : Hid (Turn l2 n0 (t ++ l2)) := hT l2
      have hB4 : Below w'.heap.size w' w4 := hB3.trans (hb4.mono hB3.size)
      clear hT H0c H1c H2c hb4 hB3 HZ HZ1
      obtain ⟨C, hC⟩ : ∃ C, C = 24 * n0 + n1 + 8 := ⟨_, rfl⟩
      rw [← hC] at hrT hlT ⊢
      have hC2 : C ≤ 1048576 := by omega
      obtain ⟨N, hN⟩ : ∃ N, N = t.length + 1 := ⟨_, rfl⟩
      rw [← hN] at hrT hlT ⊢
      have HN : Hid (N = t.length + 1) := hN
      have HTd : Hid (BRow w4 gT N C (91 :: t)) := hrT
      clear hN hC hrT
      go_wp2_with (at_make; refine wpList_make_own _ rfl _ _ 22 rfl 0 5 i5 (.int .u8 0) 1 Try.underlying22 hi5 y0 y1 .i64 .i64 _ (N + n2) rfl rfl (by first | omega | simp) ?m2 ?m3 (Nat.zero_le _) ?_)
      case m2 => rw [y2]; omega
      case m3 => unfold maxLen; omega
      intro w5 hown5 hgrow5
      have HO5 : Hid (BRow w5 w4.heap.size 0 (N + n2) []) := hown5
      have H2e : Hid (ARow w5 a2' n2 l2 b2' 0) := H2d.out.kept hgrow5 (fun _ => by simp)
      have HTe : Hid (BRow w5 gT N C (91 :: t)) := HTd.out.kept hgrow5 (by simp)
      have f2 : 0 < n2 → b2' ≠ w4.heap.size := fun h => by have := (H2d.out.2.1 h).2; omega
      have fT : gT ≠ w4.heap.size := by have := HTd.out.lt; omega
      have hB5 : Below w'.heap.size w' w5 := hB4.grown hgrow5 hB4.size (fun g hg => by cases hg)
      have hgG : w'.heap.size ≤ w4.heap.size := hB4.size
      obtain ⟨G, hG⟩ : ∃ G, G = w4.heap.size := ⟨_, rfl⟩
      rw [← hG] at HO5 f2 fT hgG ⊢
      clear hown5 hgrow5 H2d HTd hB4 hG
      go_wp2_with fail
      refine (append10 G 0 (N + n2) [] (some ⟨gT, 0, none⟩) N C (91 :: t) gT 0 _ HO5.out HTe.out.arow (fun _ => fT) (by omega) (by omega)).mono ?_
      rintro e w6 ⟨rfl, hB6, hg6⟩
      have HO6 : Hid (BRow w6 G N (N + n2) (91 :: t)) := by simpa [Hid] using hB6
      have H2f : Hid (ARow w6 a2' n2 l2 b2' 0) := H2e.out.kept hg6 (fun h => by have := f2 h; simpa using this)
      have HB6 : Below w'.heap.size w' w6 := hB5.grown hg6 hB5.size (fun g hg => by cases hg; exact hgG)
      clear hB6 hg6 H2e HTe hB5 HO5
      go_wp2_with fail
      refine (append10 G N (N + n2) (91 :: t) a2' n2 c2' l2 b2' 0 _ HO6.out H2f.out f2 (by omega) (by omega)).mono ?_
      rintro e w7 ⟨rfl, hB7, hg7⟩
      have HB7 : Below w'.heap.size w' w7 := HB6.grown hg7 HB6.size (fun g hg => by cases hg; exact hgG)
      obtain ⟨D, hD⟩ : ∃ D, D = (91 :: t) ++ l2 := ⟨_, rfl⟩
      rw [← hD] at hB7
      have HR7 : Hid (RRow w7 G (N + n2) D) := hB7.rrow
      have HTD : Hid (Turn l2 n0 (D.drop 1)) := by show Turn _ _ _; rw [hD]; exact HT.out
      have hL : N + n2 ≤ 16777216 := by omega
      have hNpos : 1 ≤ N := by have := HN.out; omega
      obtain ⟨L, hLL⟩ : ∃ L, L = N + n2 := ⟨_, rfl⟩
      rw [← hLL] at HR7 hL ⊢
      have HL : Hid (L = N + n2) := hLL
      have hL1 : 1 ≤ L := by omega
      clear hB7 hg7 HB6 HO6 H2f hD HT hLL
      go_wp2_with fail
      go_loopg [9, 10, 11, 12, 13, 14] n0 (fun gk vat vc ve vk _ _ wr => ∃ j p : Nat, j + gk = n0 ∧ vat = .int .i64 p ∧ vc = .int .i64 j ∧ ve = .bool false ∧ vk = .int .i64 j ∧ Hid (Turn l2 gk (D.drop p)) ∧ p ≤ L ∧ Hid (RRow wr G L D) ∧ Below w'.heap.size w' wr)
      case atStart => exact ⟨0, 1, by omega, rfl, rfl, rfl, rfl, HTD, hL1, HR7, HB7⟩
      case round =>
        obtain ⟨j, p, hjn, rfl, rfl, rfl, rfl, HTp, hpL, HR, hbel⟩ := hrel
        have hj : j ≤ n0 := by omega
        have hDl : D.length = L := HR.out.1
        cases gk with
        | zero =>
          obtain ⟨Q, hQ, hM⟩ := turn_end G L HTp.out (by omega) (by omega) rfl
          have hQN : Q = N := by have := HL.out; have := HLEN.out; omega
          subst hQN
          have HM : Hid (Calls Try.prog 20 #[.slice (some ⟨G, 0, none⟩) L L, .int .i64 (p : Int)] wr fun e wx => e = .returned (.tuple #[.bool false, .int .i64 (Q : Int)]) ∧ Below wr.heap.size wr wx) := zzMore20 G L L D p Q false wr HR.out hM
          have hjn0 : j = n0 := by omega
          subst hjn0
          clear hM hQ hDl HTp
          go_wp2_with fail
          refine HM.out.mono ?_
          rintro e w8 ⟨rfl, hb8⟩
          have HB8 : Below w'.heap.size w' w8 := hbel.trans (hb8.mono hbel.size)
          clear hb8 HM
          go_wp2_with fail
          go_ret
          exact ⟨by first | rfl | simp, HB8⟩
        | succ gk =>
          obtain ⟨Q, el, r, hel, hr, hdQ, hQL, hM⟩ := turn_item G L HTp.out (by omega) (by omega) rfl
          obtain ⟨hM2, hd2, hL2⟩ := turn_skip G L hel hr (by omega) hQL hdQ
          have HM : Hid (Calls Try.prog 20 #[.slice (some ⟨G, 0, none⟩) L L, .int .i64 (p : Int)] wr fun e wx => e = .returned (.tuple #[.bool true, .int .i64 (Q : Int)]) ∧ Below wr.heap.size wr wx) := zzMore20 G L L D p Q true wr HR.out hM
          obtain ⟨Q2, hQ2⟩ : ∃ Q2, Q2 = Q + el.length := ⟨_, rfl⟩
          rw [← hQ2] at hM2 hd2 hL2
          have HM2 : Hid (∀ wx, RRow wx G L D → Calls Try.prog 15 #[.slice (some ⟨G, 0, none⟩) L L, .int .i64 (Q : Int)] wx fun e wy => e = .returned (.int .i64 (Q2 : Int)) ∧ Below wx.heap.size wx wy) := fun wx hx => zzSkipV15 G L L D Q Q2 wx hx hM2
          have HT2 : Hid (Turn l2 gk (D.drop Q2)) := by show Turn _ _ _; rw [hd2]; exact .tail _ _ hr
          rw [hDl] at hL2
          clear hM hM2 hQ2 hd2 hdQ hQL hel hr HTp hDl
          go_wp2_with fail
          refine HM.out.mono ?_
          rintro e w8 ⟨rfl, hb8⟩
          have HB8 : Below w'.heap.size w' w8 := hbel.trans (hb8.mono hbel.size)
          have HR8 : Hid (RRow w8 G L D) := HR.out.below hb8
          clear hb8 HM
          go_wp2_with fail
          refine (HM2.out _ HR8.out).mono ?_
          rintro e w9 ⟨rfl, hb9⟩
          have HB9 : Below w'.heap.size w' w9 := HB8.trans (hb9.mono HB8.size)
          have HR9 : Hid (RRow w9 G L D) := HR8.out.below hb9
          clear hb9 HM2
          go_wp2_with fail
          go_roundg gk
          case measure => omega
          case rel => exact ⟨j + 1, Q2, by omega, rfl, by go_num, rfl, by go_num, HT2, hL2, HR9, HB9⟩

end Go.Proofs.Qxb6001517a
