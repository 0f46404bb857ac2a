/-
  FnEnglishMessagesKeepsEveryOtherSetting: the walk.
-/
import Derived.Test.Qxb6001160aKeepsWalks
import Derived.Deep.RegionWith
namespace Go.Proofs.Qxb6001160a
open Go.RowKit

theorem emOf_size (ss : List ByteArray) : ∀ s ∈ emOf ss, s.size ≤ tot ss + 13 := by
  intro s hs
  unfold emOf at hs
  rcases List.mem_append.1 hs with h | h
  · have := midOf_size ss s h; omega
  · rw [List.mem_singleton] at h
    rw [h]
    have : bMsgC.size = 13 := rfl
    omega

theorem cases_c (ss : List ByteArray) (c : ByteArray) : hasLC c = false ∨ (hasLC c = true ∧ (c.toList == [76, 67, 95, 65, 76, 76]) = true) ∨ (hasLC c = true ∧ (c.toList == [76, 67, 95, 65, 76, 76]) = false ∧ (c.toList == [76, 67, 95, 77, 69, 83, 83, 65, 71, 69, 83]) = true) ∨
    (hasLC c = true ∧ (c.toList == [76, 67, 95, 65, 76, 76]) = false ∧ (c.toList == [76, 67, 95, 77, 69, 83, 83, 65, 71, 69, 83]) = false ∧ eff (emOf ss) c.toList = eff ss c.toList) := by
  cases h1 : hasLC c with
  | false => exact .inl rfl
  | true =>
    cases h2 : c.toList == [76, 67, 95, 65, 76, 76] with
    | true => exact .inr (.inl ⟨rfl, rfl⟩)
    | false =>
      cases h3 : c.toList == [76, 67, 95, 77, 69, 83, 83, 65, 71, 69, 83] with
      | true => exact .inr (.inr (.inl ⟨rfl, rfl, rfl⟩))
      | false => exact .inr (.inr (.inr ⟨rfl, rfl, rfl, eff_cat ss c h1 (by simpa [sAll] using h2) (by simpa [sMsg] using h3)⟩))

theorem cases_o (ss : List ByteArray) (o : ByteArray) : (o.toList == [76, 65, 78, 71]) = true ∨ ((o.toList == [76, 65, 78, 71]) = false ∧ (o.toList == [76, 65, 78, 71, 85, 65, 71, 69]) = true) ∨ ((o.toList == [76, 65, 78, 71]) = false ∧ (o.toList == [76, 65, 78, 71, 85, 65, 71, 69]) = false ∧ hasLC o = true) ∨
    ((o.toList == [76, 65, 78, 71]) = false ∧ (o.toList == [76, 65, 78, 71, 85, 65, 71, 69]) = false ∧ hasLC o = false ∧ look o.toList (emOf ss) = look o.toList ss) := by
  cases h1 : o.toList == [76, 65, 78, 71] with
  | true => exact .inl rfl
  | false =>
    cases h2 : o.toList == [76, 65, 78, 71, 85, 65, 71, 69] with
    | true => exact .inr (.inl ⟨rfl, rfl⟩)
    | false =>
      cases h3 : hasLC o with
      | true => exact .inr (.inr (.inl ⟨rfl, rfl, rfl⟩))
      | false => exact .inr (.inr (.inr ⟨rfl, rfl, rfl, look_other ss o (by simpa [sLang] using h1) (by simpa [sLge] using h2) h3⟩))

set_option maxHeartbeats 4000000 in
theorem law8 (ao : Option Addr) (n cap : Nat) (ss : List ByteArray) (b off : Nat) (c o : ByteArray) (w : World) (h : StrRow w ao n ss b off) (hn : n ≤ maxLen) (hs : ∀ s ∈ ss, s.size ≤ maxLen) (hcs : c.size ≤ maxLen) (hos : o.size ≤ maxLen) (hb : 0 < n → b < w.heap.size) :
    Calls Try.prog 8 #[.slice ao n cap, .string c, .string o] w fun e w' => e = .returned (.bool true) ∧ Below w.heap.size w w' := by
  have hl := h.1
  subst hl
  obtain ⟨n, hln⟩ : ∃ n, n = ss.length := ⟨_, rfl⟩
  have HL : Hid (n = ss.length) := hln
  rw [← hln] at h hn hb ⊢
  clear hln
  have hc30 := bytes30 ao n cap ss b off c o w h hn hs hcs hos
  have H30 : Hid (Calls Try.prog 30 #[.slice ao n cap, .string c, .string o] w fun e w' => w' = w ∧ RetBool (fun r => r = true → n + tot ss + c.size + o.size ≤ 1048576) e) := hc30
  have HR : Hid (StrRow w ao n ss b off) := h
  clear hc30 h
  go_enter Try.func8, Try.ntmps8
  go_wp2_with fail
  refine H30.out.mono ?_
  rintro e w' ⟨rfl, r, rfl, hr⟩
  cases r with
  | false =>
    go_wp2
    go_ret
    exact ⟨rfl, Below.refl _ _⟩
  | true =>
    have hbd := hr rfl
    clear hr H30
    have hd1 : decide (1048576 < (c.size : Int)) = false := decide_eq_false (by omega)
    have hd2 : decide (1048576 < (o.size : Int)) = false := decide_eq_false (by omega)
    go_wp2_with fail
    refine (adds26 _ ao n cap ss b off w' HR.out (by omega) (by omega) (by omega) (by omega)).mono ?_
    rintro e w2 ⟨hw2, t, rfl, _⟩
    subst hw2
    by_cases ht : 1048576 < t
    · go_wp2
      go_ret
      exact ⟨rfl, Below.refl _ _⟩
    · have hd0 : decide (1048576 < t) = false := decide_eq_false ht
      go_wp2_with fail
      refine (clone12 ao n cap ss b off _ HR.out (by omega) hb).mono ?_
      rintro e w1 ⟨hb1, v1, rfl, hown1⟩
      obtain ⟨ao1, cap1, b1, rfl, hrow1, hbb1⟩ := strRow_of_owns hown1
      rw [← HL.out] at hrow1 hbb1 ⊢
      have HR1 : Hid (StrRow w1 ao1 n ss b1 0) := hrow1
      clear hrow1 hown1
      go_wp2_with fail
      refine (em27 ao1 n cap1 ss b1 0 _ HR1.out (by omega) (fun h => (hbb1 h).2)).mono ?_
      rintro e w3 ⟨hb3, v3, rfl, hown3⟩
      obtain ⟨ao3, cap3, b3, rfl, hrow3, _⟩ := strRow_of_owns hown3
      have HB : Hid (Below w2.heap.size w2 w3) := hb1.trans (hb3.mono hb1.size)
      have hrow1 : StrRow w3 ao1 n ss b1 0 := ⟨HR1.out.1, HR1.out.2.1, fun i hi => (hb3.cell (p := ⟨b1, 0 + i, none⟩) (hbb1 (by omega)).2).trans (HR1.out.2.2 i hi)⟩
      have hM := midOf_length ss
      have hel : (emOf ss).length = (midOf ss).length + 1 := by unfold emOf; simp
      have hs3 : ∀ s ∈ emOf ss, s.size ≤ maxLen := fun s hs => by have := emOf_size ss s hs; unfold maxLen; omega
      have hn3 : (emOf ss).length ≤ maxLen := by have := HL.out; unfold maxLen; omega
      have HO31 : Hid (∀ q (x : ByteArray), Calls Try.prog 31 #[.slice ao3 (emOf ss).length cap3, .string x] (w3.drewN q) fun e w' => e = .returned (.string (eff (emOf ss) x.toList)) ∧ ∃ q', w' = (w3.drewN q).drewN q') := fun q x => eff31 _ _ _ _ _ _ x _ (hrow3.drewN q) hn3 hs3
      have HI31 : Hid (∀ q (x : ByteArray), Calls Try.prog 31 #[.slice ao1 n cap1, .string x] (w3.drewN q) fun e w' => e = .returned (.string (eff ss x.toList)) ∧ ∃ q', w' = (w3.drewN q).drewN q') := fun q x => eff31 _ _ _ _ _ _ x _ (hrow1.drewN q) hn hs
      have HO33 : Hid (∀ q (x : ByteArray), Calls Try.prog 33 #[.slice ao3 (emOf ss).length cap3, .string x] (w3.drewN q) fun e w' => e = .returned (.string (look x.toList (emOf ss))) ∧ ∃ q', w' = (w3.drewN q).drewN q') := fun q x => look33 _ _ _ _ _ _ x _ (hrow3.drewN q) hn3 hs3
      have HI33 : Hid (∀ q (x : ByteArray), Calls Try.prog 33 #[.slice ao1 n cap1, .string x] (w3.drewN q) fun e w' => e = .returned (.string (look x.toList ss)) ∧ ∃ q', w' = (w3.drewN q).drewN q') := fun q x => look33 _ _ _ _ _ _ x _ (hrow1.drewN q) hn hs
      have HE : Hid ((eff (emOf ss) (ByteArray.mk #[76, 67, 95, 77, 69, 83, 83, 65, 71, 69, 83]).toList).toList = [67]) := by
        show _ = _
        have e : (ByteArray.mk #[76, 67, 95, 77, 69, 83, 83, 65, 71, 69, 83]).toList = sMsg := by rw [ByteArray.toList_eq]; rfl
        rw [e]
        exact eff_msg ss
      obtain ⟨N, hN⟩ : ∃ N, N = (emOf ss).length := ⟨_, rfl⟩
      rw [← hN] at HO31 HO33 ⊢
      have hC := cases_c ss c
      have hO := cases_o ss o
      have HC : Hid _ := hC
      have HOo : Hid _ := hO
      clear hC hO hN hown3 hrow3 hrow1 hM hel hs3 hn3 hb3 hb1 hbb1 HR1 HR hs hb
      go_wp2_with fail
      refine (HO31.out 0 _).mono ?_
      rintro e w5 ⟨rfl, q5, rfl⟩
      obtain ⟨E, hE⟩ : ∃ E, E = eff (emOf ss) (ByteArray.mk #[76, 67, 95, 77, 69, 83, 83, 65, 71, 69, 83]).toList := ⟨_, rfl⟩
      have hE2 : (E.toList == [67]) = true := by rw [hE, HE.out]; rfl
      rw [← hE]
      clear hE HE
      rcases HC.out with h1 | ⟨h1, h2⟩ | ⟨h1, h2, h3⟩ | ⟨h1, h2, h3, h4⟩
      all_goals rcases HOo.out with g1 | ⟨g1, g2⟩ | ⟨g1, g2, g3⟩ | ⟨g1, g2, g3, g4⟩
      all_goals
        go_wp2_with (first | (go_at_call 32; refine (pfx32 _ _ (by assumption)).mono ?_; rintro e w' ⟨rfl, rfl⟩) | (go_at_call_of 31 (Value.slice ao3 N cap3); refine (HO31.out _ _).mono ?_; rintro e w' ⟨rfl, q', rfl⟩) | (go_at_call_of 31 (Value.slice ao1 n cap1); refine (HI31.out _ _).mono ?_; rintro e w' ⟨rfl, q', rfl⟩) | (go_at_call_of 33 (Value.slice ao3 N cap3); refine (HO33.out _ _).mono ?_; rintro e w' ⟨rfl, q', rfl⟩) | (go_at_call_of 33 (Value.slice ao1 n cap1); refine (HI33.out _ _).mono ?_; rintro e w' ⟨rfl, q', rfl⟩))
        go_ret
        exact ⟨rfl, below_drewN HB.out _⟩

end Go.Proofs.Qxb6001160a
