/-
  isSpace, zzSpace, skipSpace, HasPrefix at three dashes, zzCountSep: the walks.
-/
import Derived.Test.Qxb6001354aPlain
import Derived.Test.Qxb6001354aShelf
import Derived.WalkKit
import Derived.WalkSpells
import Derived.WalkLawsBesides
namespace Go.Proofs.Qxb6001354a
open Go.RowKit

theorem byte_eq (c : UInt8) (n : Nat) (hn : n < 256) : (c == UInt8.ofNat n) = ((c.toNat : Int) == (n : Int)) := by
  rw [Bool.eq_iff_iff, beq_iff_eq, beq_iff_eq]
  constructor
  · rintro rfl
    simp [Nat.mod_eq_of_lt hn]
  · intro h
    apply UInt8.toNat_inj.1
    simp [Nat.mod_eq_of_lt hn]
    omega

theorem sp_eq (c : UInt8) : sp c = ((c.toNat : Int) == 32 || (c.toNat : Int) == 9 || (c.toNat : Int) == 10 || (c.toNat : Int) == 12 || (c.toNat : Int) == 13) := by
  unfold sp
  rw [show (32 : UInt8) = UInt8.ofNat 32 from rfl, show (9 : UInt8) = UInt8.ofNat 9 from rfl, show (10 : UInt8) = UInt8.ofNat 10 from rfl, show (12 : UInt8) = UInt8.ofNat 12 from rfl, show (13 : UInt8) = UInt8.ofNat 13 from rfl]
  rw [byte_eq _ _ (by decide), byte_eq _ _ (by decide), byte_eq _ _ (by decide), byte_eq _ _ (by decide), byte_eq _ _ (by decide)]
  rfl

set_option maxHeartbeats 400000 in
theorem isSpace17 (c : UInt8) (w : World) : Calls Try.prog 17 #[.int .u8 (c.toNat : Int)] w fun e w' => e = .returned (.bool (sp c)) ∧ w' = w := by
  have HE : Hid (sp c = _) := sp_eq c
  obtain ⟨x, hx⟩ : ∃ x : Int, x = (c.toNat : Int) := ⟨_, rfl⟩
  rw [← hx] at HE ⊢
  clear hx
  obtain ⟨r, hr⟩ : ∃ r, r = sp c := ⟨_, rfl⟩
  rw [← hr] at HE ⊢
  clear hr
  go_enter Try.func17, Try.ntmps17
  go_wp2
  all_goals
    go_ret
    exact ⟨by rw [HE.out]; simp_all, rfl⟩

set_option maxHeartbeats 400000 in
theorem zzSpace6 (c : UInt8) (w : World) : Calls Try.prog 6 #[.int .u8 (c.toNat : Int)] w fun e w' => e = .returned (.bool (sp c)) ∧ w' = w := by
  have HE : Hid (sp c = _) := sp_eq c
  obtain ⟨x, hx⟩ : ∃ x : Int, x = (c.toNat : Int) := ⟨_, rfl⟩
  rw [← hx] at HE ⊢
  clear hx
  obtain ⟨r, hr⟩ : ∃ r, r = sp c := ⟨_, rfl⟩
  rw [← hr] at HE ⊢
  clear hr
  go_enter Try.func6, Try.ntmps6
  go_wp2
  all_goals
    go_ret
    exact ⟨by rw [HE.out]; simp_all, rfl⟩

theorem drop_cons (t : ByteArray) (k : Nat) (h : k < t.size) : t.data.toList.drop k = t[k] :: t.data.toList.drop (k + 1) := by
  rw [List.drop_eq_getElem_cons (by exact h)]
  rfl

/-- It returns an int that is a natural number of which p holds. -/
def RetNat (p : Nat → Prop) (e : Ending) : Prop := ∃ j : Nat, e = .returned (.int .i64 (j : Int)) ∧ p j

set_option maxHeartbeats 400000 in
theorem skip15 (t : ByteArray) (i : Nat) (w : World) (ht : t.size ≤ 1048576) (hi : i ≤ t.size) :
    Calls Try.prog 15 #[.string t, .int .i64 (i : Int)] w fun e w' => w' = w ∧ RetNat (fun j => i ≤ j ∧ j ≤ t.size ∧ t.data.toList.drop j = (t.data.toList.drop i).dropWhile sp) e := by
  go_enter Try.func15, Try.ntmps15
  go_wp2
  go_loop [1] (fun v => ∃ k : Nat, i ≤ k ∧ k ≤ t.size ∧ v = .int .i64 k ∧ Hid ((t.data.toList.drop k).dropWhile sp = (t.data.toList.drop i).dropWhile sp)) (fun v => t.size - (intOf v).toNat)
  case atStart => exact ⟨i, Nat.le_refl _, hi, rfl, rfl⟩
  case round =>
    obtain ⟨k, hik, hk, rfl, HK⟩ := hrel
    by_cases hlt : k < t.size
    · have hd := drop_cons t k hlt
      cases hsp : sp t[k] with
      | true =>
        have HN : Hid ((t.data.toList.drop (k + 1)).dropWhile sp = (t.data.toList.drop i).dropWhile sp) := by
          show _ = _
          rw [← HK.out, hd, List.dropWhile_cons_of_pos hsp]
        clear hd
        go_wp2_with (go_at_call 17; refine (isSpace17 _ _).mono ?_; rintro e w' ⟨rfl, rfl⟩)
        go_round
        case rel => exact ⟨k + 1, by omega, by omega, by go_num, HN⟩
        case measure => simp [intOf]; omega
      | false =>
        have HN : Hid (t.data.toList.drop k = (t.data.toList.drop i).dropWhile sp) := by
          show _ = _
          rw [← HK.out, hd, List.dropWhile_cons_of_neg (by simp [hsp])]
        clear hd
        go_wp2_with (go_at_call 17; refine (isSpace17 _ _).mono ?_; rintro e w' ⟨rfl, rfl⟩)
        go_ret
        exact ⟨rfl, k, rfl, hik, hk, HN.out⟩
    · have HN : Hid (t.data.toList.drop k = (t.data.toList.drop i).dropWhile sp) := by
        show _ = _
        rw [← HK.out, List.drop_of_length_le (by show t.size ≤ k; omega)]
        rfl
      go_wp2
      go_ret
      exact ⟨rfl, k, rfl, hik, hk, HN.out⟩

theorem dash_take (t : ByteArray) : dashL.isPrefixOf t.data.toList = ((t.extract 0 3).toList == [45, 45, 45]) := by
  rw [ByteArray.toList_eq, Lib.extract_data, List.drop_zero, Nat.sub_zero, Bool.eq_iff_iff, List.isPrefixOf_iff_prefix, beq_iff_eq, List.prefix_iff_eq_take]
  exact eq_comm
theorem dash_short (t : ByteArray) (h : ¬ 3 ≤ t.size) : dashL.isPrefixOf t.data.toList = false := by
  rw [Bool.eq_false_iff, ne_eq, List.isPrefixOf_iff_prefix]
  intro hp
  have := hp.length_le
  exact h this

set_option maxHeartbeats 400000 in
theorem pfx18 (s : ByteArray) (w : World) (hs : s.size ≤ 1048576) :
    Calls Try.prog 18 #[.string s, .string ⟨#[45, 45, 45]⟩] w fun e w' => e = .returned (.bool (dashL.isPrefixOf s.data.toList)) ∧ w' = w := by
  by_cases h : 3 ≤ s.size
  · have c : (3 : Int) ≤ (s.size : Int) := by omega
    rw [dash_take s]
    go_enter Try.func18, Try.ntmps18
    go_wp2
    all_goals
      go_ret
      exact ⟨by first | rfl | simp_all, rfl⟩
  · have c : ¬ (3 : Int) ≤ (s.size : Int) := by omega
    rw [dash_short s h]
    go_enter Try.func18, Try.ntmps18
    go_wp2
    go_ret
    exact ⟨by first | rfl | simp_all, rfl⟩

set_option maxHeartbeats 400000 in
theorem pfx14 (s : ByteArray) (w : World) (hs : s.size ≤ 1048576) :
    Calls Try.prog 14 #[.string s, .string ⟨#[45, 45, 45]⟩] w fun e w' => e = .returned (.bool (dashL.isPrefixOf s.data.toList)) ∧ w' = w := by
  go_enter Try.func14, Try.ntmps14
  go_wp2_with (go_at_call 18; refine (pfx18 _ _ hs).mono ?_; rintro e w' ⟨rfl, rfl⟩)
  go_ret
  exact ⟨rfl, rfl⟩

set_option maxHeartbeats 400000 in
theorem pfx8 (s : ByteArray) (w : World) (hs : s.size ≤ 1048576) :
    Calls Try.prog 8 #[.string s, .string ⟨#[45, 45, 45]⟩] w fun e w' => e = .returned (.bool (dashL.isPrefixOf s.data.toList)) ∧ w' = w := by
  by_cases h : 3 ≤ s.size
  · have c : (3 : Int) ≤ (s.size : Int) := by omega
    rw [dash_take s]
    go_enter Try.func8, Try.ntmps8
    go_wp2
    all_goals
      go_ret
      exact ⟨by first | rfl | simp_all, rfl⟩
  · have c : ¬ (3 : Int) ≤ (s.size : Int) := by omega
    rw [dash_short s h]
    go_enter Try.func8, Try.ntmps8
    go_wp2
    go_ret
    exact ⟨by first | rfl | simp_all, rfl⟩

theorem cnt_le (l : List UInt8) : cnt l ≤ l.length := by
  induction l with
  | nil => exact Nat.le_refl _
  | cons a l ih =>
    simp only [cnt, List.length_cons]
    split <;> omega

theorem cnt_short (l : List UInt8) (h : l.length < 4) : cnt l = 0 := by
  rw [cnt_zero_iff]
  intro j hj
  cases hc : Lib.occAt l sepL j with
  | false => rfl
  | true =>
    rcases Lib.occAt_room hc with h' | h'
    · have : sepL.length = 4 := rfl
      omega
    · cases h'

theorem cnt_step (t : ByteArray) (k : Nat) (h : k + 4 ≤ t.size) :
    cnt (t.data.toList.drop k) = (if ((t[k].toNat : Int) == 10 && (t[k + 1].toNat : Int) == 45 && (t[k + 2].toNat : Int) == 45 && (t[k + 3].toNat : Int) == 45) then 1 else 0) + cnt (t.data.toList.drop (k + 1)) := by
  have e : sepL.isPrefixOf (t.data.toList.drop k) = ((t[k].toNat : Int) == 10 && (t[k + 1].toNat : Int) == 45 && (t[k + 2].toNat : Int) == 45 && (t[k + 3].toNat : Int) == 45) := by
    rw [drop_cons t k (by omega), drop_cons t (k + 1) (by omega), drop_cons t (k + 2) (by omega), drop_cons t (k + 3) (by omega)]
    show ((10 : UInt8) == t[k] && ((45 : UInt8) == t[k + 1] && ((45 : UInt8) == t[k + 2] && ((45 : UInt8) == t[k + 3] && true)))) = _
    have b1 := byte_eq t[k] 10 (by decide)
    have b2 := byte_eq t[k + 1] 45 (by decide)
    have b3 := byte_eq t[k + 2] 45 (by decide)
    have b4 := byte_eq t[k + 3] 45 (by decide)
    rw [Bool.beq_comm (a := (10 : UInt8)), Bool.beq_comm (a := (45 : UInt8)) (b := t[k + 1]), Bool.beq_comm (a := (45 : UInt8)) (b := t[k + 2]), Bool.beq_comm (a := (45 : UInt8)) (b := t[k + 3])]
    rw [show (10 : UInt8) = UInt8.ofNat 10 from rfl, show (45 : UInt8) = UInt8.ofNat 45 from rfl, b1, b2, b3, b4]
    simp [Bool.and_assoc]
  rw [← e]
  rw [drop_cons t k (by omega)]
  rfl

set_option maxHeartbeats 1000000 in
theorem count7 (t : ByteArray) (w : World) (ht : t.size ≤ 1048576) :
    Calls Try.prog 7 #[.string t] w fun e w' => e = .returned (.int .i64 (cnt t.data.toList : Int)) ∧ w' = w := by
  go_enter Try.func7, Try.ntmps7
  go_wp2
  go_loop [3, 4] (fun n i => ∃ k C : Nat, k ≤ t.size ∧ i = .int .i64 k ∧ n = .int .i64 C ∧ C ≤ k ∧ Hid (C + cnt (t.data.toList.drop k) = cnt t.data.toList)) (fun _ i => t.size - (intOf i).toNat)
  case atStart => exact ⟨0, 0, Nat.zero_le _, rfl, rfl, Nat.le_refl _, by show _ = _; rw [List.drop_zero]; omega⟩
  case round =>
    obtain ⟨k, C, hk, rfl, rfl, hC, HC⟩ := hrel
    by_cases hlt : k + 4 ≤ t.size
    · have hst := cnt_step t k hlt
      have HS : Hid (cnt (t.data.toList.drop k) = _) := hst
      have g1 : (k : Int) + 1 < (t.size : Int) := by omega
      clear hst
      go_wp2
      · go_round
        case rel => exact ⟨k + 1, C + 1, by omega, by go_num, by go_num, by omega, by
          show _ = _
          have hS := HS.out
          rw [if_pos (by simp_all)] at hS
          have := HC.out
          omega⟩
        case measure => simp [intOf]; omega
      all_goals
        go_round
        case rel => exact ⟨k + 1, C, by omega, by go_num, by go_num, by omega, by
          show _ = _
          have hS := HS.out
          rw [if_neg (by simp_all)] at hS
          have := HC.out
          omega⟩
        case measure => simp [intOf]; omega
    · have hz : cnt (t.data.toList.drop k) = 0 := cnt_short _ (by rw [List.length_drop]; show t.size - k < 4; omega)
      have HZ : Hid (C = cnt t.data.toList) := by show _ = _; have := HC.out; omega
      clear hz
      go_wp2
      go_ret
      exact ⟨by rw [← HZ.out]; rfl, rfl⟩

end Go.Proofs.Qxb6001354a
