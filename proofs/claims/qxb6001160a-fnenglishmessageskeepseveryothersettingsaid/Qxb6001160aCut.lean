/-
  zzCutName and strings.Cut at "=": one plain function for both.
-/
import Derived.Test.Qxb6001160aRows
import Derived.WalkKit
import Derived.WalkSpells
import Derived.WalkLawsBesides
import Derived.Lib.Bytealg
import Derived.BigQuiet
import Derived.Deep.QuietTactic
namespace Go.Proofs.Qxb6001160a
open Go.RowKit

/-- Where the first '=' stands. -/
def eqAt (s : ByteArray) : Option Nat := s.data.toList.findIdx? (· == 61)
def nameOf (s : ByteArray) : ByteArray := match eqAt s with | none => s | some i => s.extract 0 i
def valOf (s : ByteArray) : ByteArray := match eqAt s with | none => ByteArray.empty | some i => s.extract (i + 1) s.size

theorem size_list (s : ByteArray) : s.data.toList.length = s.size := rfl

theorem eqAt_lt {s : ByteArray} {i : Nat} (h : eqAt s = some i) : i < s.size := by
  unfold eqAt at h
  have := (List.findIdx?_eq_some_iff_getElem.1 h).1
  rwa [size_list] at this

theorem nameOf_none {s : ByteArray} (h : eqAt s = none) : nameOf s = s := by simp [nameOf, h]
theorem nameOf_some {s : ByteArray} {i : Nat} (h : eqAt s = some i) : nameOf s = s.extract 0 i := by simp [nameOf, h]
theorem valOf_none {s : ByteArray} (h : eqAt s = none) : valOf s = ByteArray.empty := by simp [valOf, h]
theorem valOf_some {s : ByteArray} {i : Nat} (h : eqAt s = some i) : valOf s = s.extract (i + 1) s.size := by simp [valOf, h]

theorem eqAt_first {s : ByteArray} {k : Nat} (hk : k < s.size) (h0 : ∀ j (hj : j < k), s[j]'(by omega) ≠ 61) (h1 : s[k] = 61) : eqAt s = some k := by
  unfold eqAt
  rw [List.findIdx?_eq_some_iff_getElem]
  refine ⟨by rw [size_list]; exact hk, (by show (s[k] == 61) = true; rw [h1]; rfl), fun j hj => ?_⟩
  have := h0 j hj
  show ¬ (s[j]'(by omega) == 61) = true
  simpa using this

theorem eqAt_never {s : ByteArray} (h0 : ∀ j (hj : j < s.size), s[j] ≠ 61) : eqAt s = none := by
  unfold eqAt
  rw [List.findIdx?_eq_none_iff]
  intro x hx
  obtain ⟨j, hj, rfl⟩ := List.getElem_of_mem hx
  have := h0 j (by rwa [size_list] at hj)
  show (s[j]'(by rwa [size_list] at hj) == 61) = false
  simpa using this

theorem indexByte_none : ∀ (l : List UInt8) (c : UInt8), l.findIdx? (· == c) = none → Lib.indexByte l c = -1
  | [], _, _ => rfl
  | b :: l, c, h => by
    rw [List.findIdx?_cons] at h
    by_cases hb : (b == c) = true
    · simp [hb] at h
    · have hb' : (b == c) = false := by simpa using hb
      simp only [hb', Bool.false_eq_true, if_false, Option.map_eq_none_iff] at h
      unfold Lib.indexByte
      simp [hb', indexByte_none l c h]

theorem indexByte_some : ∀ (l : List UInt8) (c : UInt8) (i : Nat), l.findIdx? (· == c) = some i → Lib.indexByte l c = i
  | [], _, _, h => by simp at h
  | b :: l, c, i, h => by
    rw [List.findIdx?_cons] at h
    by_cases hb : (b == c) = true
    · simp [hb] at h
      unfold Lib.indexByte
      simp [hb, ← h]
    · have hb' : (b == c) = false := by simpa using hb
      simp only [hb', Bool.false_eq_true, if_false, Option.map_eq_some_iff] at h
      obtain ⟨j, hj, rfl⟩ := h
      have hi := indexByte_some l c j hj
      unfold Lib.indexByte
      have hne : ((j : Int) == -1) = false := by rw [beq_eq_false_iff_ne]; omega
      simp only [hb', hi, hne, Bool.false_eq_true, if_false]
      omega

set_option maxHeartbeats 400000 in
/-- zzCutName. -/
theorem cut28 (s : ByteArray) (w : World) (hs : s.size ≤ maxLen) :
    Calls Try.prog 28 #[.string s] w fun e w' => e = .returned (.tuple #[.string (nameOf s), .string (valOf s)]) ∧ ∃ q, w' = w.drewN q := by
  unfold maxLen at hs
  go_enter Try.func28, Try.ntmps28
  go_wp2
  go_loop [4] (fun i => ∃ k : Nat, k ≤ s.size ∧ i = .int .i64 k ∧ Hid (∀ j (hj : j < s.size), j < k → s[j] ≠ 61)) (fun i => s.size - (intOf i).toNat)
  case atStart => exact ⟨0, Nat.zero_le _, rfl, fun j _ hj => absurd hj (Nat.not_lt_zero _)⟩
  case round =>
    obtain ⟨k, hk, rfl, HK⟩ := hrel
    by_cases hlt : k < s.size
    · have c1 : (k : Int) < (s.size : Int) := by omega
      by_cases hq : s[k] = 61
      · have he := eqAt_first hlt (fun j hj => HK.out j (by omega) hj) hq
        have hb : (((s[k].toNat : Nat) : Int) == 61) = true := by rw [hq]; rfl
        have HE : Hid (eqAt s = some k) := he
        clear he hq HK
        go_wp2
        go_quiet (fail)
        go_wp2
        go_ret2
        exact ⟨by rw [nameOf_some HE.out, valOf_some HE.out]; rfl, _, rfl⟩
      · have hb : (((s[k].toNat : Nat) : Int) == 61) = false := by
          rw [beq_eq_false_iff_ne]; intro h
          exact hq (UInt8.toNat_inj.1 (by show s[k].toNat = 61; omega))
        have HQ : Hid (¬ s[k] = 61) := hq
        clear hq
        go_wp2
        go_round
        case rel => exact ⟨k + 1, by omega, by go_num, fun j hj hjk => by
          by_cases e : j = k
          · subst e; exact HQ.out
          · exact HK.out j hj (by omega)⟩
        case measure => simp [intOf]; omega
    · go_wp2
      go_ret2
      have he : eqAt s = none := eqAt_never fun j hj => HK.out j hj (by omega)
      exact ⟨by rw [nameOf_none he, valOf_none he]; rfl, 0, rfl⟩

set_option maxHeartbeats 400000 in
/-- internal/stringslite.IndexByte. -/
theorem idx57 (s : ByteArray) (c : Int) (w : World) :
    Calls Try.prog 57 #[.string s, .int .u8 c] w fun e w' => e = .returned (.int .i64 (Lib.indexByte s.data.toList c.toNat.toUInt8)) ∧ w' = w := by
  go_enter Try.func57, Try.ntmps57
  go_wp2
  rw [run_callFunc_extern Try.func61 (by kernel_rfl) (by kernel_rfl) (by kernel_rfl) (e := Extern.BytealgIndexByte.indexByte) (by kernel_rfl), Lib.run_indexByteString]
  simp only [Result.andThen]
  rw [Oper.upon_value]
  go_wp2
  go_ret
  exact ⟨rfl, rfl⟩

set_option maxHeartbeats 400000 in
/-- internal/stringslite.Index at "=". -/
theorem idx56 (s : ByteArray) (w : World) :
    Calls Try.prog 56 #[.string s, .string ⟨#[61]⟩] w fun e w' => e = .returned (.int .i64 (Lib.indexByte s.data.toList 61)) ∧ w' = w := by
  go_enter Try.func56, Try.ntmps56
  go_wp2_with (go_at_call 57; refine (idx57 _ _ _).mono ?_; rintro e w' ⟨rfl, rfl⟩)
  · have h : ([61] == s.toList) = true := by assumption
    go_ret
    refine ⟨?_, rfl⟩
    have h2 : s.data.toList = [61] := by
      rw [ByteArray.toList_eq] at h
      exact (beq_iff_eq.1 h).symm
    rw [h2]
    rfl
  · go_ret
    exact ⟨rfl, rfl⟩

set_option maxHeartbeats 400000 in
/-- internal/stringslite.Cut at "=". -/
theorem cut53 (s : ByteArray) (w : World) (hs : s.size ≤ maxLen) :
    Calls Try.prog 53 #[.string s, .string ⟨#[61]⟩] w fun e w' => e = .returned (.tuple #[.string (nameOf s), .string (valOf s), .bool (eqAt s).isSome]) ∧ ∃ q, w' = w.drewN q := by
  unfold maxLen at hs
  cases he : eqAt s with
  | none =>
    have hi : Lib.indexByte s.data.toList 61 = -1 := indexByte_none _ _ he
    have HE : Hid (eqAt s = none) := he
    have HI : Hid (Lib.indexByte s.data.toList 61 = -1) := hi
    clear he hi
    go_enter Try.func53, Try.ntmps53
    go_wp2_with (go_at_call 56; refine (idx56 _ _).mono ?_; rintro e w' ⟨rfl, rfl⟩; rw [HI.out])
    go_ret3
    exact ⟨by rw [nameOf_none HE.out, valOf_none HE.out]; rfl, 0, rfl⟩
  | some i =>
    have hi : Lib.indexByte s.data.toList 61 = i := indexByte_some _ _ _ he
    have hlt := eqAt_lt he
    have c1 : (0 : Int) ≤ ↑i := by omega
    have c2 : (↑i : Int) ≤ ↑s.size := by omega
    have c3 : (0 : Int) ≤ ↑i + 1 := by omega
    have c4 : (↑i + 1 : Int) ≤ ↑s.size := by omega
    have HE : Hid (eqAt s = some i) := he
    have HI : Hid (Lib.indexByte s.data.toList 61 = i) := hi
    clear he hi
    go_enter Try.func53, Try.ntmps53
    go_wp2_with (go_at_call 56; refine (idx56 _ _).mono ?_; rintro e w' ⟨rfl, rfl⟩; rw [HI.out])
    go_quiet (fail)
    go_wp2
    go_ret3
    exact ⟨by rw [nameOf_some HE.out, valOf_some HE.out]; rfl, _, rfl⟩

set_option maxHeartbeats 400000 in
/-- strings.Cut at "=". -/
theorem cut47 (s : ByteArray) (w : World) (hs : s.size ≤ maxLen) :
    Calls Try.prog 47 #[.string s, .string ⟨#[61]⟩] w fun e w' => e = .returned (.tuple #[.string (nameOf s), .string (valOf s), .bool (eqAt s).isSome]) ∧ ∃ q, w' = w.drewN q := by
  go_enter Try.func47, Try.ntmps47
  go_wp2_with (go_at_call 53; refine (cut53 _ _ hs).mono ?_; rintro e w' ⟨rfl, q, rfl⟩)
  go_ret3
  exact ⟨rfl, q, rfl⟩

end Go.Proofs.Qxb6001160a
