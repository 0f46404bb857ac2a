/-
  FnSplitPiecesShape: the walk.
-/
import Derived.Test.Qxb6001354aSplit
namespace Go.Proofs.Qxb6001354a
open Go.RowKit

set_option maxHeartbeats 400000 in
theorem zzSplit10 (t : ByteArray) (m : Int) (w : World) (ht : t.size ≤ 1048576) (hm : w.cell? ⟨0, 0, none⟩ = some (.int .i64 m)) (h0 : 0 < w.heap.size) :
    Calls Try.prog 10 #[.string t] w fun e w' => Below w.heap.size w w' ∧ RetDocs w.heap.size w' (splitT (dat t)) e := by
  have H13 : Hid (Calls Try.prog 13 #[.string t] w fun e w' => Below w.heap.size w w' ∧ RetDocs w.heap.size w' (splitT (dat t)) e) := split13 t m w ht hm h0
  clear hm h0
  go_enter Try.func10, Try.ntmps10
  go_wp2_with fail
  refine H13.out.mono ?_
  rintro e w1 ⟨hb1, v1, ds, rfl, hown1, hds⟩
  have HO : Hid (w1.ownsRow w.heap.size 9 1 v1 ds.length (ds.map Value.string)) := hown1
  have HD : Hid (ds.map dat = splitT (dat t)) := hds
  clear hown1 hds H13
  go_wp2
  go_ret
  exact ⟨hb1, _, _, rfl, HO.out, HD.out⟩

/-- It returns a bool r of which 'p r' holds. -/
def RetBool (p : Bool → Prop) (e : Ending) : Prop := ∃ r : Bool, e = .returned (.bool r) ∧ p r

set_option maxHeartbeats 400000 in
theorem bytes12 (t : ByteArray) (w : World) (ht : t.size ≤ maxLen) :
    Calls Try.prog 12 #[.string t] w fun e w' => w' = w ∧ RetBool (fun r => r = true → t.size ≤ 1048576) e := by
  unfold maxLen at ht
  by_cases h : t.size ≤ 1048576
  · go_enter Try.func12, Try.ntmps12
    go_wp2
    go_ret
    exact ⟨rfl, true, rfl, fun _ => h⟩
  · go_enter Try.func12, Try.ntmps12
    go_wp2
    go_ret
    exact ⟨rfl, false, rfl, by simp⟩

/-- A slice of the call's own that holds at least one string. -/
theorem docs_of_owns {w : World} {base : Nat} {v : Value} {ds : List ByteArray} (h : w.ownsRow base 9 1 v ds.length (ds.map Value.string)) (h1 : 1 ≤ ds.length) :
    ∃ g cap, v = .slice (some ⟨g, 0, none⟩) ds.length cap ∧ base ≤ g ∧ g < w.heap.size ∧ ∀ i, i < ds.length → w.cell? ⟨g, i, none⟩ = some (.string (ds.getD i ByteArray.empty)) := by
  rcases h.2 with ⟨_, h0⟩ | ⟨g, cap, cur, rfl, hb, hg, _⟩
  · omega
  · refine ⟨g, cap, rfl, hb, (Array.getElem?_eq_some_iff.1 hg).1, fun i hi => ?_⟩
    rw [h.cellAt i (by omega)]
    simp [hi]

theorem getD_mem (ds : List ByteArray) (k : Nat) (h : k < ds.length) : ds.getD k ByteArray.empty = ds[k] := by simp [h]

/-- What the loop asks of document k. -/
theorem doc_facts {t : ByteArray} {ds : List ByteArray} (hD : ds.map dat = splitT (dat t)) {k : Nat} (hk : k < ds.length) :
    cnt (ds.getD k ByteArray.empty).data.toList = 0 ∧ (1 ≤ k → ∀ h : 0 < (ds.getD k ByteArray.empty).size, sp ((ds.getD k ByteArray.empty)[0]'h) = false) ∧
      (k + 1 < ds.length → ∀ h : (ds.getD k ByteArray.empty).size - 1 < (ds.getD k ByteArray.empty).size, sp ((ds.getD k ByteArray.empty)[(ds.getD k ByteArray.empty).size - 1]'h) = false) := by
  have hlen : (splitT (dat t)).length = ds.length := by rw [← hD, List.length_map]
  rw [getD_mem ds k hk]
  have hget : (splitT (dat t))[k]'(by omega) = dat ds[k] := by simp [← hD]
  refine ⟨?_, fun h1 h => ?_, fun h1 h => ?_⟩
  · exact splitT_cnt (dat t) _ (by rw [show ds[k].data.toList = _ from hget.symm]; exact List.getElem_mem _)
  · have hm : dat ds[k] ∈ (splitT (dat t)).tail := by
      rw [← hget, List.mem_iff_getElem]
      refine ⟨k - 1, by rw [List.length_tail]; omega, ?_⟩
      rw [List.getElem_tail]
      congr 1
      omega
    have e : dat ds[k] = ds[k][0] :: (dat ds[k]).drop 1 := drop_cons ds[k] 0 h
    exact splitT_tail (dat t) _ hm _ _ e
  · have hm : dat ds[k] ∈ (splitT (dat t)).dropLast := by
      rw [← hget, List.mem_iff_getElem]
      exact ⟨k, by rw [List.length_dropLast]; omega, by rw [List.getElem_dropLast]⟩
    have hl : (dat ds[k]).length = ds[k].size := rfl
    have e : dat ds[k] = (dat ds[k]).take (ds[k].size - 1) ++ [ds[k][ds[k].size - 1]] := by
      have h2 := List.take_append_drop (ds[k].size - 1) (dat ds[k])
      rw [show (dat ds[k]).drop (ds[k].size - 1) = _ from drop_cons ds[k] (ds[k].size - 1) h] at h2
      rw [List.drop_of_length_le (by show ds[k].size ≤ _; omega)] at h2
      exact h2.symm
    exact splitT_lasts (dat t) _ hm _ _ e

def totB (ds : List ByteArray) : Nat := (ds.map ByteArray.size).sum
theorem totB_eq (ds : List ByteArray) : totB ds = tots (ds.map dat) := by
  unfold totB tots
  rw [List.map_map]
  rfl
theorem totB_take_succ (ss : List ByteArray) (k : Nat) (h : k < ss.length) : totB (ss.take (k + 1)) = totB (ss.take k) + (ss.getD k ByteArray.empty).size := by
  unfold totB
  rw [List.take_succ_eq_append_getElem h]
  simp only [List.map_append, List.map_cons, List.map_nil, List.sum_append, List.sum_cons, List.sum_nil, List.getD_eq_getElem?_getD, List.getElem?_eq_getElem h, Option.getD_some]
  omega
theorem totB_take_le (ss : List ByteArray) (k : Nat) : totB (ss.take k) ≤ totB ss := by
  unfold totB
  conv => rhs; rw [← List.take_append_drop k ss]
  rw [List.map_append, List.sum_append]
  omega

theorem one_doc {t : ByteArray} {ds : List ByteArray} (hds : ds.map dat = splitT (dat t)) (h1 : cnt (dat t) = 0) (h2 : extra (dat t) = 0) : ds.length = 1 ∧ ds.getD 0 ByteArray.empty = t := by
  have e := splitT_one (dat t) h1 h2
  rw [← hds] at e
  obtain ⟨d, rfl, hd⟩ := List.map_eq_singleton_iff.1 e
  exact ⟨rfl, Go.WideShapes.bytes_inj hd⟩

set_option maxHeartbeats 4000000 in
theorem law4 (t : ByteArray) (m : Int) (w : World) (hts : t.size ≤ maxLen) (hm : w.cell? ⟨0, 0, none⟩ = some (.int .i64 m)) (h0 : 0 < w.heap.size) :
    Calls Try.prog 4 #[.string t] w fun e w' => e = .returned (.bool true) ∧ Below w.heap.size w w' := by
  have HM : Hid (w.cell? ⟨0, 0, none⟩ = some (.int .i64 m) ∧ 0 < w.heap.size) := ⟨hm, h0⟩
  clear hm h0
  go_enter Try.func4, Try.ntmps4
  go_wp2_with fail
  refine (bytes12 t w hts).mono ?_
  rintro e w' ⟨rfl, r, rfl, hr⟩
  cases r with
  | false =>
    go_wp2
    go_ret
    exact ⟨rfl, Below.refl _ _⟩
  | true =>
    have ht := hr rfl
    clear hr
    have hd1 : decide (1048576 < (t.size : Int)) = false := decide_eq_false (by omega)
    go_wp2_with fail
    refine (zzSplit10 t m w' ht HM.out.1 HM.out.2).mono ?_
    rintro e w1 ⟨hb1, v1, ds, rfl, hown1, hds⟩
    have hlen : (splitT (dat t)).length = ds.length := by rw [← hds, List.length_map]
    have hn := splitT_length (dat t)
    have htot := splitT_tots (dat t)
    rw [← hds, ← totB_eq] at htot
    have htot2 : totB ds ≤ t.size := htot
    obtain ⟨g, cap, rfl, _, _, hcell⟩ := docs_of_owns hown1 (by omega)
    have HC : Hid (∀ i, i < ds.length → w1.cell? ⟨g, i, none⟩ = some (.string (ds.getD i ByteArray.empty))) := hcell
    have HB : Hid (Below w'.heap.size w' w1) := hb1
    have HD : Hid (ds.map dat = splitT (dat t)) := hds
    have hone := one_doc hds
    have H1 : Hid (cnt (dat t) = 0 → extra (dat t) = 0 → ds.length = 1 ∧ ds.getD 0 ByteArray.empty = t) := hone
    have hC1 := cnt_le (dat t)
    have hC2 : cnt (dat t) ≤ t.size := hC1
    have hn1 : 1 ≤ ds.length := by omega
    have hn2 : ds.length ≤ 1 + cnt (dat t) + extra (dat t) := by omega
    clear hown1 hds hcell hlen hn htot hb1 hone hC1 HM
    obtain ⟨N, hN⟩ : ∃ N, N = ds.length := ⟨_, rfl⟩
    rw [← hN] at HC H1 hn1 hn2 ⊢
    have HN : Hid (N = ds.length) := hN
    clear hN
    go_wp2_with fail
    refine (count7 t _ ht).mono ?_
    rintro e w2 ⟨rfl, rfl⟩
    rw [show t.data.toList = dat t from rfl]
    obtain ⟨C, hC⟩ : ∃ C, C = cnt (dat t) := ⟨_, rfl⟩
    rw [← hC] at hC2 hn2 H1 ⊢
    clear hC
    go_wp2_with fail
    refine (pfx8 t _ ht).mono ?_
    rintro e w2 ⟨rfl, rfl⟩
    rw [show t.data.toList = dat t from rfl]
    cases hp : dashL.isPrefixOf (dat t) with
    | true =>
      have he : extra (dat t) = 1 := by unfold extra; rw [hp]; rfl
      rw [he] at hn2
      clear he H1
      have hd3 : decide (1 + (C : Int) + 1 < (N : Int)) = false := decide_eq_false (by omega)
      have hd2 : decide ((N : Int) < 1) = false := decide_eq_false (by omega)
      go_wp2_with fail
      go_loop [7, 8, 9] (fun z i _ => ∃ k : Nat, k ≤ N ∧ i = .int .i64 k ∧ z = .int .i64 (totB (ds.take k) : Int)) (fun _ i _ => N - (intOf i).toNat)
      case atStart => exact ⟨0, Nat.zero_le _, rfl, rfl⟩
      case round =>
        obtain ⟨k, hk, rfl, rfl⟩ := hrel
        have hTl := totB_take_le ds k
        by_cases hlt : k < N
        · have hk2 : k < ds.length := by have := HN.out; omega
          have hcell := HC.out k hlt
          obtain ⟨f1, f2, f3⟩ := doc_facts HD.out hk2
          have hsucc := totB_take_succ ds k hk2
          have hTl1 := totB_take_le ds (k + 1)
          rw [← HN.out] at f3
          obtain ⟨d, hd⟩ : ∃ d, d = ds.getD k ByteArray.empty := ⟨_, rfl⟩
          rw [← hd] at hcell f1 f2 f3 hsucc
          have HS : Hid (totB (ds.take (k + 1)) = totB (ds.take k) + d.size) := hsucc
          have hds1 : d.size ≤ 1048576 := by omega
          obtain ⟨T, hT⟩ : ∃ T, T = totB (ds.take k) := ⟨_, rfl⟩
          rw [← hT] at HS hTl ⊢
          have hTd : T + d.size ≤ 1048576 := by have := HS.out; omega
          clear hd hT hsucc hTl1 hk2
          by_cases hz : 0 < d.size
          · have g2 := fun h => f2 h hz
            have g3 := fun h => f3 h (by omega)
            clear f2 f3
            by_cases hk1 : 1 ≤ k
            · have hs0 := g2 hk1
              clear g2
              by_cases hkn : k + 1 < N
              · have hs1 := g3 hkn
                clear g3
                go_wp2_with (first | (go_at_call 7; refine (count7 _ _ hds1).mono ?_; rintro x9 w9 ⟨rfl, rfl⟩) | (go_at_call 6; refine (zzSpace6 _ _).mono ?_; rintro x9 w9 ⟨rfl, rfl⟩))
                go_round
                case rel => exact ⟨k + 1, by omega, by go_num, by rw [HS.out]; go_num⟩
                case measure => simp [intOf]; omega
              · clear g3
                go_wp2_with (first | (go_at_call 7; refine (count7 _ _ hds1).mono ?_; rintro x9 w9 ⟨rfl, rfl⟩) | (go_at_call 6; refine (zzSpace6 _ _).mono ?_; rintro x9 w9 ⟨rfl, rfl⟩))
                go_round
                case rel => exact ⟨k + 1, by omega, by go_num, by rw [HS.out]; go_num⟩
                case measure => simp [intOf]; omega
            · clear g2
              by_cases hkn : k + 1 < N
              · have hs1 := g3 hkn
                clear g3
                go_wp2_with (first | (go_at_call 7; refine (count7 _ _ hds1).mono ?_; rintro x9 w9 ⟨rfl, rfl⟩) | (go_at_call 6; refine (zzSpace6 _ _).mono ?_; rintro x9 w9 ⟨rfl, rfl⟩))
                go_round
                case rel => exact ⟨k + 1, by omega, by go_num, by rw [HS.out]; go_num⟩
                case measure => simp [intOf]; omega
              · clear g3
                go_wp2_with (first | (go_at_call 7; refine (count7 _ _ hds1).mono ?_; rintro x9 w9 ⟨rfl, rfl⟩) | (go_at_call 6; refine (zzSpace6 _ _).mono ?_; rintro x9 w9 ⟨rfl, rfl⟩))
                go_round
                case rel => exact ⟨k + 1, by omega, by go_num, by rw [HS.out]; go_num⟩
                case measure => simp [intOf]; omega
          · clear f2 f3
            go_wp2_with (first | (go_at_call 7; refine (count7 _ _ hds1).mono ?_; rintro x9 w9 ⟨rfl, rfl⟩) | (go_at_call 6; refine (zzSpace6 _ _).mono ?_; rintro x9 w9 ⟨rfl, rfl⟩))
            all_goals
              go_round
              case rel => exact ⟨k + 1, by omega, by go_num, by rw [HS.out]; go_num⟩
              case measure => simp [intOf]; omega
        · rw [List.take_of_length_le (by have := HN.out; omega)]
          clear hTl
          cases hC0 : ((C : Int) == 0) with
          | true =>
            go_wp2
            go_ret
            exact ⟨rfl, HB.out⟩
          | false =>
            go_wp2
            go_ret
            exact ⟨rfl, HB.out⟩
    | false =>
      have he : extra (dat t) = 0 := by unfold extra; rw [hp]; rfl
      rw [he] at hn2 H1
      clear he
      have hd3 : decide (1 + (C : Int) < (N : Int)) = false := decide_eq_false (by omega)
      have hd2 : decide ((N : Int) < 1) = false := decide_eq_false (by omega)
      go_wp2_with fail
      go_loop [7, 8, 9] (fun z i _ => ∃ k : Nat, k ≤ N ∧ i = .int .i64 k ∧ z = .int .i64 (totB (ds.take k) : Int)) (fun _ i _ => N - (intOf i).toNat)
      case atStart => exact ⟨0, Nat.zero_le _, rfl, rfl⟩
      case round =>
        obtain ⟨k, hk, rfl, rfl⟩ := hrel
        have hTl := totB_take_le ds k
        by_cases hlt : k < N
        · have hk2 : k < ds.length := by have := HN.out; omega
          have hcell := HC.out k hlt
          obtain ⟨f1, f2, f3⟩ := doc_facts HD.out hk2
          have hsucc := totB_take_succ ds k hk2
          have hTl1 := totB_take_le ds (k + 1)
          rw [← HN.out] at f3
          obtain ⟨d, hd⟩ : ∃ d, d = ds.getD k ByteArray.empty := ⟨_, rfl⟩
          rw [← hd] at hcell f1 f2 f3 hsucc
          have HS : Hid (totB (ds.take (k + 1)) = totB (ds.take k) + d.size) := hsucc
          have hds1 : d.size ≤ 1048576 := by omega
          obtain ⟨T, hT⟩ : ∃ T, T = totB (ds.take k) := ⟨_, rfl⟩
          rw [← hT] at HS hTl ⊢
          have hTd : T + d.size ≤ 1048576 := by have := HS.out; omega
          clear hd hT hsucc hTl1 hk2
          by_cases hz : 0 < d.size
          · have g2 := fun h => f2 h hz
            have g3 := fun h => f3 h (by omega)
            clear f2 f3
            by_cases hk1 : 1 ≤ k
            · have hs0 := g2 hk1
              clear g2
              by_cases hkn : k + 1 < N
              · have hs1 := g3 hkn
                clear g3
                go_wp2_with (first | (go_at_call 7; refine (count7 _ _ hds1).mono ?_; rintro x9 w9 ⟨rfl, rfl⟩) | (go_at_call 6; refine (zzSpace6 _ _).mono ?_; rintro x9 w9 ⟨rfl, rfl⟩))
                go_round
                case rel => exact ⟨k + 1, by omega, by go_num, by rw [HS.out]; go_num⟩
                case measure => simp [intOf]; omega
              · clear g3
                go_wp2_with (first | (go_at_call 7; refine (count7 _ _ hds1).mono ?_; rintro x9 w9 ⟨rfl, rfl⟩) | (go_at_call 6; refine (zzSpace6 _ _).mono ?_; rintro x9 w9 ⟨rfl, rfl⟩))
                go_round
                case rel => exact ⟨k + 1, by omega, by go_num, by rw [HS.out]; go_num⟩
                case measure => simp [intOf]; omega
            · clear g2
              by_cases hkn : k + 1 < N
              · have hs1 := g3 hkn
                clear g3
                go_wp2_with (first | (go_at_call 7; refine (count7 _ _ hds1).mono ?_; rintro x9 w9 ⟨rfl, rfl⟩) | (go_at_call 6; refine (zzSpace6 _ _).mono ?_; rintro x9 w9 ⟨rfl, rfl⟩))
                go_round
                case rel => exact ⟨k + 1, by omega, by go_num, by rw [HS.out]; go_num⟩
                case measure => simp [intOf]; omega
              · clear g3
                go_wp2_with (first | (go_at_call 7; refine (count7 _ _ hds1).mono ?_; rintro x9 w9 ⟨rfl, rfl⟩) | (go_at_call 6; refine (zzSpace6 _ _).mono ?_; rintro x9 w9 ⟨rfl, rfl⟩))
                go_round
                case rel => exact ⟨k + 1, by omega, by go_num, by rw [HS.out]; go_num⟩
                case measure => simp [intOf]; omega
          · clear f2 f3
            go_wp2_with (first | (go_at_call 7; refine (count7 _ _ hds1).mono ?_; rintro x9 w9 ⟨rfl, rfl⟩) | (go_at_call 6; refine (zzSpace6 _ _).mono ?_; rintro x9 w9 ⟨rfl, rfl⟩))
            all_goals
              go_round
              case rel => exact ⟨k + 1, by omega, by go_num, by rw [HS.out]; go_num⟩
              case measure => simp [intOf]; omega
        · rw [List.take_of_length_le (by have := HN.out; omega)]
          clear hTl
          cases hC0 : ((C : Int) == 0) with
          | true =>
            have hCz : C = 0 := by have := beq_iff_eq.1 hC0; omega
            obtain ⟨hN1, hdd⟩ := H1.out hCz (by trivial)
            have hc0 := HC.out 0 (by omega)
            rw [hdd] at hc0
            have hN2 : ((N : Int) == 1) = true := by rw [beq_iff_eq]; omega
            clear hdd hCz
            have HN1 : Hid (N = 1) := hN1
            clear hN1
            go_wp2
            go_ret
            exact ⟨rfl, HB.out⟩
          | false =>
            go_wp2
            go_ret
            exact ⟨rfl, HB.out⟩

end Go.Proofs.Qxb6001354a
