/-
  FnSizeBetweenQuarterAndAllOfNonSpaceBytes: the walk of the law.
-/
import Derived.Test.Qxb6001480aSize
namespace Go.Proofs.Qxb6001480a
open Go.RowKit

/-- It returns a bool r of which 'p r' holds. -/
def RetBool (p : Bool → Prop) (e : Ending) : Prop := ∃ r : Bool, e = .returned (.bool r) ∧ p r

set_option maxHeartbeats 400000 in
theorem bytes8 (t : ByteArray) (w : World) (ht : t.size ≤ maxLen) :
    Calls Try.prog 8 #[.string t] w fun e w' => w' = w ∧ RetBool (fun r => r = true → t.size ≤ 1048576) e := by
  unfold maxLen at ht
  by_cases h : t.size ≤ 1048576
  · go_enter Try.func8, Try.ntmps8
    go_wp2
    go_ret
    exact ⟨rfl, true, rfl, fun _ => h⟩
  · go_enter Try.func8, Try.ntmps8
    go_wp2
    go_ret
    exact ⟨rfl, false, rfl, by simp⟩

/-- Is every byte ASCII? -/
def asB (l : List UInt8) : Bool := l.all fun c => decide (c.toNat < 128)
theorem asB_snoc (l : List UInt8) (c : UInt8) : asB (l ++ [c]) = (asB l && decide (c.toNat < 128)) := by simp [asB]
theorem asB_all {l : List UInt8} (h : asB l = true) : allAscii l := fun c hc => by
  have := List.all_eq_true.1 h c hc
  simpa using this
theorem nsp_le (l : List UInt8) : nsp l ≤ l.length := by have := ns_nsp l; omega

set_option maxHeartbeats 2000000 in
theorem law4 (s : ByteArray) (w : World) (hs0 : s.size ≤ maxLen) :
    Calls Try.prog 4 #[.string s] w fun e w' => e = .returned (.bool true) ∧ Below w.heap.size w w' := by
  go_enter Try.func4, Try.ntmps4
  go_wp2_with fail
  refine (bytes8 s w hs0).mono ?_
  rintro e w' ⟨rfl, r, rfl, hr⟩
  cases r with
  | false =>
    go_wp2
    go_ret
    exact ⟨rfl, Below.refl _ _⟩
  | true =>
    have hs := hr rfl
    clear hr
    have hd1 : decide (1048576 < (s.size : Int)) = false := decide_eq_false (by omega)
    go_wp2_with fail
    go_loop [3, 4, 5] (fun n a i => ∃ k : Nat, k ≤ s.size ∧ i = .int .i64 k ∧ n = .int .i64 (nsp (s.data.toList.take k) : Int) ∧ a = .bool (asB (s.data.toList.take k))) (fun _ _ i => s.size - (intOf i).toNat)
    case atStart => exact ⟨0, Nat.zero_le _, rfl, rfl, rfl⟩
    case round =>
      obtain ⟨k, hk, rfl, rfl, rfl⟩ := hrel
      have hnl := nsp_le (s.data.toList.take k)
      rw [List.length_take] at hnl
      by_cases hlt : k < s.size
      · have hts := take_snoc s k hlt
        have e1 := nsp_append (s.data.toList.take k) [s[k]]
        have e2 := asB_snoc (s.data.toList.take k) s[k]
        rw [← hts, nsp_one] at e1
        rw [← hts] at e2
        have E1 : Hid (nsp (s.data.toList.take (k + 1)) = nsp (s.data.toList.take k) + if psp s[k] then 1 else 0) := e1
        have E2 : Hid (asB (s.data.toList.take (k + 1)) = (asB (s.data.toList.take k) && decide (s[k].toNat < 128))) := e2
        clear hts e1 e2
        obtain ⟨X, hX⟩ : ∃ X, X = nsp (s.data.toList.take k) := ⟨_, rfl⟩
        obtain ⟨Y, hY⟩ : ∃ Y, Y = asB (s.data.toList.take k) := ⟨_, rfl⟩
        rw [← hX] at E1 hnl ⊢
        rw [← hY] at E2 ⊢
        clear hX hY
        by_cases ha : s[k].toNat < 128
        · have hdA : decide ((128 : Int) ≤ (s[k].toNat : Int)) = false := decide_eq_false (by omega)
          have E3 : Hid (asB (s.data.toList.take (k + 1)) = Y) := by show _ = _; rw [E2.out, decide_eq_true ha, Bool.and_true]
          clear ha
          cases hsp : psp s[k] with
          | true =>
            have E4 : Hid (nsp (s.data.toList.take (k + 1)) = X + 1) := by show _ = _; rw [E1.out, hsp]; rfl
            clear E1 E2
            go_wp2_with (go_at_call 7; refine (isSpace7 _ _).mono ?_; rintro x9 w9 ⟨rfl, rfl⟩)
            go_round
            case rel => exact ⟨k + 1, by omega, by go_num, by rw [E4.out]; go_num, by rw [E3.out]⟩
            case measure => simp [intOf]; omega
          | false =>
            have E4 : Hid (nsp (s.data.toList.take (k + 1)) = X) := by show _ = _; rw [E1.out, hsp]; rfl
            clear E1 E2
            go_wp2_with (go_at_call 7; refine (isSpace7 _ _).mono ?_; rintro x9 w9 ⟨rfl, rfl⟩)
            go_round
            case rel => exact ⟨k + 1, by omega, by go_num, by rw [E4.out], by rw [E3.out]⟩
            case measure => simp [intOf]; omega
        · have ha' : (128 : Int) ≤ (s[k].toNat : Int) := by omega
          have hsp : psp s[k] = false := high_not_psp (by omega)
          have E3 : Hid (asB (s.data.toList.take (k + 1)) = false) := by show _ = _; rw [E2.out, decide_eq_false ha, Bool.and_false]
          have E4 : Hid (nsp (s.data.toList.take (k + 1)) = X) := by show _ = _; rw [E1.out, hsp]; rfl
          clear E1 E2
          go_wp2_with (go_at_call 7; refine (isSpace7 _ _).mono ?_; rintro x9 w9 ⟨rfl, rfl⟩)
          go_round
          case rel => exact ⟨k + 1, by omega, by go_num, by rw [E4.out], by rw [E3.out]⟩
          case measure => simp [intOf]; omega
      · rw [List.take_of_length_le (by show s.size ≤ k; omega)] at hnl ⊢
        have hsum := ns_nsp s.data.toList
        have hl : s.data.toList.length = s.size := rfl
        rw [hl] at hsum
        clear hl
        go_wp2_with fail
        refine (size6 s _ hs).mono ?_
        rintro e w2 ⟨hb2, C, rfl, hG1, hG2, hG3⟩
        have HA : Hid (asB s.data.toList = true → C = ns s.data.toList) := fun h => hG3 (asB_all h)
        clear hG3
        obtain ⟨X, hX⟩ : ∃ X, X = nsp s.data.toList := ⟨_, rfl⟩
        obtain ⟨Y, hY⟩ : ∃ Y, Y = ns s.data.toList := ⟨_, rfl⟩
        obtain ⟨B, hB⟩ : ∃ B, B = asB s.data.toList := ⟨_, rfl⟩
        rw [← hX] at hnl hsum ⊢
        rw [← hY] at hG1 hG2 hsum HA
        rw [← hB] at HA ⊢
        clear hX hY hB
        have hle : X ≤ s.size := by omega
        have hC : C ≤ 1048576 := by omega
        have HS : Hid (Y + X = s.size) := hsum
        have q1 : C ≤ s.size - X := by omega
        have q2 : s.size - X ≤ 4 * C := by omega
        clear hsum hG1 hG2 hnl
        cases B with
        | true =>
          have hCY := HA.out rfl
          have hne : ((C : Int) != (s.size : Int) - (X : Int)) = false := by
            rw [bne_eq_false_iff_eq]
            have := HS.out
            omega
          clear hCY HA
          go_wp2
          go_ret
          exact ⟨rfl, hb2⟩
        | false =>
          go_wp2
          go_ret
          exact ⟨rfl, hb2⟩

end Go.Proofs.Qxb6001480a
