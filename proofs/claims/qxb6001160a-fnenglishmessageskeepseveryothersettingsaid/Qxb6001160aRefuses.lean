/-
  FnEnglishMessagesRefusesMessageSettings: the plain law and the walk.
-/
import Derived.Test.Qxb6001160aEm
namespace Go.Proofs.Qxb6001160a
open Go.RowKit

theorem append_data (a b : ByteArray) : (a ++ b).data.toList = a.data.toList ++ b.data.toList := by simp

theorem eqAt_lang (A : ByteArray) : eqAt (bLangE ++ A) = some 4 := by
  unfold eqAt
  rw [append_data]
  show List.findIdx? (· == 61) (76 :: 65 :: 78 :: 71 :: 61 :: A.data.toList) = some 4
  simp [List.findIdx?_cons]

theorem nameOf_lang (A : ByteArray) : (nameOf (bLangE ++ A)).toList = [76, 65, 78, 71] := by
  rw [nameOf_some (eqAt_lang A), ByteArray.toList_eq, Lib.extract_data, append_data]
  rfl

theorem keepB_lang (A : ByteArray) : keepB (bLangE ++ A) = true := by
  unfold keepB sAll sMsg sLge
  rw [nameOf_lang]
  rfl

theorem midOf_keep (ss : List ByteArray) : ∀ s ∈ midOf ss, keepB s = true := by
  intro s hs
  unfold midOf at hs
  split at hs
  · exact (List.mem_filter.1 hs).2
  · rcases List.mem_append.1 hs with h | h
    · exact (List.mem_filter.1 (List.mem_filter.1 h).1).2
    · rw [List.mem_singleton] at h
      rw [h]
      exact keepB_lang _

theorem allOf_some (ss : List ByteArray) (h : ¬ (allOf ss).toList.isEmpty = true) : ∃ s ∈ ss, keepB s = false := by
  have : ∀ (l : List ByteArray) (a : ByteArray), (∃ s ∈ l, keepB s = false) ∨ l.foldl allStep a = a := by
    intro l
    induction l with
    | nil => intro a; exact .inr rfl
    | cons s l ih =>
      intro a
      by_cases hs : ((nameOf s).toList == sAll) = true
      · exact .inl ⟨s, List.mem_cons_self, by unfold keepB; rw [hs]; rfl⟩
      · rcases ih (allStep a s) with ⟨x, hx, hk⟩ | h'
        · exact .inl ⟨x, List.mem_cons_of_mem _ hx, hk⟩
        · right
          rw [List.foldl_cons, h']
          unfold allStep
          rw [if_neg hs]
  rcases this ss ByteArray.empty with h' | h'
  · exact h'
  · exact absurd (by unfold allOf; rw [h', ByteArray.toList_eq]; rfl) h

theorem filter_lt {α : Type} (p : α → Bool) : ∀ (l : List α), (∃ s ∈ l, p s = false) → (l.filter p).length < l.length
  | [], h => by obtain ⟨_, h, _⟩ := h; cases h
  | a :: l, h => by
    by_cases ha : p a = true
    · rw [List.filter_cons_of_pos ha]
      obtain ⟨s, hs, hp⟩ := h
      rcases List.mem_cons.1 hs with rfl | hs
      · rw [ha] at hp; cases hp
      · have := filter_lt p l ⟨s, hs, hp⟩
        simp only [List.length_cons]; omega
    · rw [List.filter_cons_of_neg ha]
      have := List.length_filter_le p l
      simp only [List.length_cons]; omega

theorem midOf_length (ss : List ByteArray) : (midOf ss).length ≤ ss.length := by
  unfold midOf
  split
  · exact keptOf_length ss
  · rename_i h
    have h1 := filter_lt keepB ss (allOf_some ss h)
    have h2 := List.length_filter_le (fun s => !delB s) (keptOf ss)
    unfold keptOf at h2 ⊢
    rw [List.length_append, List.length_singleton]
    omega

theorem size_of_mem {ss : List ByteArray} {s : ByteArray} (h : s ∈ ss) : s.size ≤ tot ss := by
  obtain ⟨j, hj, rfl⟩ := List.getElem_of_mem h
  have := size_le_tot ss j hj
  rwa [List.getD_eq_getElem?_getD, List.getElem?_eq_getElem hj, Option.getD_some] at this

theorem midOf_size (ss : List ByteArray) : ∀ s ∈ midOf ss, s.size ≤ tot ss + 5 := by
  intro s hs
  unfold midOf at hs
  split at hs
  · have := size_of_mem (List.mem_filter.1 hs).1; omega
  · rcases List.mem_append.1 hs with h | h
    · have := size_of_mem (List.mem_filter.1 (List.mem_filter.1 h).1).1; omega
    · rw [List.mem_singleton] at h
      have := allOf_size (tot ss) ss (fun s hs => size_of_mem hs)
      rw [h, ByteArray.size_append]
      have e : bLangE.size = 5 := rfl
      omega

set_option maxHeartbeats 400000 in
theorem em27 (ao : Option Addr) (n cap : Nat) (ss : List ByteArray) (b off : Nat) (w : World) (h : StrRow w ao n ss b off) (hn : n + tot ss ≤ 1048576) (hb : 0 < n → b < w.heap.size) :
    Calls Try.prog 27 #[.slice ao n cap] w fun e w' => Below w.heap.size w w' ∧ RetStrs w.heap.size w' (emOf ss) e := by
  go_enter Try.func27, Try.ntmps27
  go_wp2_with fail
  refine (em41 ao n cap ss b off w h hn hb).mono ?_
  rintro e w1 ⟨hb1, v1, rfl, hown1⟩
  have HO : Hid (w1.ownsRow w.heap.size 9 1 v1 (emOf ss).length ((emOf ss).map Value.string)) := hown1
  clear hown1
  go_wp2
  go_ret
  exact ⟨hb1, _, rfl, HO.out⟩

set_option maxHeartbeats 400000 in
theorem law6 (ao : Option Addr) (n cap : Nat) (ss : List ByteArray) (b off : Nat) (w : World) (h : StrRow w ao n ss b off) (hn : n ≤ maxLen) (hs : ∀ s ∈ ss, s.size ≤ maxLen) (hb : 0 < n → b < w.heap.size) :
    Calls Try.prog 6 #[.slice ao n cap] w fun e w' => e = .returned (.bool true) ∧ Below w.heap.size w w' := by
  have hl := h.1
  subst hl
  obtain ⟨n, hln⟩ : ∃ n, n = ss.length := ⟨_, rfl⟩
  have HL : Hid (n = ss.length) := hln
  rw [← hln] at h hn hb ⊢
  clear hln
  have hc25 := bytes25 ao n cap ss b off w h hn hs
  have H25 : Hid (Calls Try.prog 25 #[.slice ao n cap] w fun e w' => w' = w ∧ RetBool (fun r => r = true → n + tot ss ≤ 1048576) e) := hc25
  have HR : Hid (StrRow w ao n ss b off) := h
  clear hc25 h
  go_enter Try.func6, Try.ntmps6
  go_wp2_with fail
  refine H25.out.mono ?_
  rintro e w' ⟨rfl, r, rfl, hr⟩
  cases r with
  | false =>
    go_wp2
    go_ret
    exact ⟨rfl, Below.refl _ _⟩
  | true =>
    have hbd := hr rfl
    clear hr H25
    go_wp2_with fail
    refine (adds26 0 ao n cap ss b off w' HR.out (by omega) (by omega) (by omega) (by omega)).mono ?_
    rintro e w2 ⟨hw2, t, rfl, _⟩
    subst hw2
    by_cases ht : 1048576 < t
    · go_wp2
      go_ret
      exact ⟨rfl, Below.refl _ _⟩
    · have hd0 : decide (1048576 < t) = false := decide_eq_false ht
      go_wp2_with fail
      refine (clone12 ao n cap ss b off _ HR.out (by omega) hb).mono ?_
      rintro e w1 ⟨hb1, v1, rfl, hown1⟩
      obtain ⟨ao1, cap1, b1, rfl, hrow1, hbb1⟩ := strRow_of_owns hown1
      rw [← HL.out] at hrow1 hbb1 ⊢
      have HR1 : Hid (StrRow w1 ao1 n ss b1 0) := hrow1
      clear hrow1 hown1
      go_wp2_with fail
      refine (em27 ao1 n cap1 ss b1 0 _ HR1.out (by omega) (fun h => (hbb1 h).2)).mono ?_
      rintro e w3 ⟨hb3, v3, rfl, hown3⟩
      obtain ⟨ao3, cap3, b3, rfl, hrow3, hbb3⟩ := strRow_of_owns hown3
      have hM := midOf_length ss
      have hkeep := midOf_keep ss
      have hlast : (emOf ss).getD (midOf ss).length ByteArray.empty = bMsgC := by unfold emOf; simp [List.getD_eq_getElem?_getD]
      have hlt : ∀ i, i < (midOf ss).length → (emOf ss).getD i ByteArray.empty ∈ midOf ss := fun i hi => by
        unfold emOf
        rw [List.getD_eq_getElem?_getD, List.getElem?_append_left hi, List.getElem?_eq_getElem hi]
        exact List.getElem_mem hi
      have hel : (emOf ss).length = (midOf ss).length + 1 := by unfold emOf; simp
      obtain ⟨_, hao3, hc3⟩ := hrow3
      rw [hel] at hao3 hc3 hbb3 ⊢
      obtain ⟨M, hMM⟩ : ∃ M, M = (midOf ss).length := ⟨_, rfl⟩
      rw [← hMM] at hao3 hc3 hM hlast hlt ⊢
      obtain rfl := hao3 (by omega)
      have hcl : w3.cell? ⟨b3, M, none⟩ = some (.string ⟨#[76, 67, 95, 77, 69, 83, 83, 65, 71, 69, 83, 61, 67]⟩) := by
        have := hc3 M (by omega)
        rw [hlast, Nat.zero_add] at this
        exact this
      rw [← HL.out] at hM
      have HB : Hid (Below w2.heap.size w2 w3) := hb1.trans (hb3.mono hb1.size)
      have HK : Hid (∀ i, i < M → keepB ((emOf ss).getD i ByteArray.empty) = true ∧ ((emOf ss).getD i ByteArray.empty).size ≤ tot ss + 5) := fun i hi => ⟨hkeep _ (hlt i hi), midOf_size ss _ (hlt i hi)⟩
      have HC : Hid (∀ i, i < M → w3.cell? ⟨b3, i, none⟩ = some (.string ((emOf ss).getD i ByteArray.empty))) := fun i hi => by have := hc3 i (by omega); rwa [Nat.zero_add] at this
      clear hown3 hc3 hlast hlt hel hkeep hb3 hb1 hbb3 hMM hao3
      have hd1 : decide ((M : Int) + 1 < 1) = false := decide_eq_false (by omega)
      have hd2 : decide (n < M) = false := decide_eq_false (by omega)
      go_wp2
      go_loopw [5] (fun i wr => ∃ k : Nat, k ≤ M ∧ i = .int .i64 k ∧ ∃ q, wr = w3.drewN q) (fun i _ => M - (intOf i).toNat)
      case atStart => exact ⟨0, Nat.zero_le _, rfl, 0, rfl⟩
      case round =>
        obtain ⟨k, hk, rfl, q, rfl⟩ := hrel
        by_cases hlt : k < M
        · have hcell := HC.out k hlt
          obtain ⟨hkp, hsz⟩ := HK.out k hlt
          obtain ⟨s, hs'⟩ : ∃ s, s = (emOf ss).getD k ByteArray.empty := ⟨_, rfl⟩
          rw [← hs'] at hcell hkp hsz
          clear hs'
          have hsz' : s.size ≤ maxLen := by unfold maxLen; omega
          obtain ⟨h1, h2, h3⟩ : ((nameOf s).toList == [76, 67, 95, 65, 76, 76]) = false ∧ ((nameOf s).toList == [76, 67, 95, 77, 69, 83, 83, 65, 71, 69, 83]) = false ∧ ((nameOf s).toList == [76, 65, 78, 71, 85, 65, 71, 69]) = false := by
            unfold keepB sAll sMsg sLge at hkp
            simpa [and_assoc] using hkp
          clear hkp hsz
          go_wp2_with (go_at_call 28; refine (cut28 _ _ hsz').mono ?_; rintro e w' ⟨rfl, q', rfl⟩)
          go_roundw
          case rel => exact ⟨k + 1, by omega, by go_num, q + q', rfl⟩
          case measure => simp [intOf]; omega
        · go_wp2
          go_ret
          exact ⟨rfl, below_drewN HB.out _⟩

end Go.Proofs.Qxb6001160a
