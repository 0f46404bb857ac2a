/-
  zzBytes_.., zzHasPrefix, zzLookup, zzEffective: the walks.
-/
import Derived.Test.Qxb6001160aKeepsPlain
namespace Go.Proofs.Qxb6001160a
open Go.RowKit

set_option maxHeartbeats 1000000 in
theorem bytes30 (ao : Option Addr) (n cap : Nat) (ss : List ByteArray) (b off : Nat) (c o : ByteArray) (w : World) (h : StrRow w ao n ss b off) (hn : n ≤ maxLen) (hs : ∀ s ∈ ss, s.size ≤ maxLen) (hcs : c.size ≤ maxLen) (hos : o.size ≤ maxLen) :
    Calls Try.prog 30 #[.slice ao n cap, .string c, .string o] w fun e w' => w' = w ∧ RetBool (fun r => r = true → n + tot ss + c.size + o.size ≤ 1048576) e := by
  obtain ⟨hl, hao, hc⟩ := h
  unfold maxLen at hn hs hcs hos
  by_cases hbig : n ≤ 1048576
  · go_enter Try.func30, Try.ntmps30
    go_wp2
    go_loop [7, 8] (fun z i => ∃ k : Nat, k ≤ n ∧ i = .int .i64 k ∧ z = .int .i64 ((n + tot (ss.take k) : Nat) : Int) ∧ n + tot (ss.take k) ≤ 1048576) (fun _ i => n - (intOf i).toNat)
    case atStart => exact ⟨0, Nat.zero_le _, rfl, by simp [tot], by simpa [tot] using hbig⟩
    case round =>
      obtain ⟨k, hk, rfl, rfl, hb⟩ := hrel
      by_cases hlt : k < n
      · have hsucc := tot_take_succ ss k (by omega)
        have hcell := hc k hlt
        have hmem : (ss.getD k ByteArray.empty).size ≤ 9223372036854775807 := hs _ (by rw [List.getD_eq_getElem?_getD, List.getElem?_eq_getElem (by omega)]; exact List.getElem_mem _)
        obtain rfl := hao (by omega)
        obtain ⟨s, hs'⟩ : ∃ s, s = ss.getD k ByteArray.empty := ⟨_, rfl⟩
        rw [← hs'] at hcell hsucc hmem
        obtain ⟨T, hT⟩ : ∃ T, T = tot (ss.take k) := ⟨_, rfl⟩
        rw [← hT] at hsucc hb ⊢
        have HS : Hid (tot (ss.take (k + 1)) = T + s.size) := hsucc
        clear hs' hT hsucc hc hs hl
        go_wp2
        · go_ret
          exact ⟨rfl, false, rfl, by simp⟩
        · go_ret
          exact ⟨rfl, false, rfl, by simp⟩
        · go_round
          case rel => exact ⟨k + 1, by omega, by go_num, by rw [HS.out]; go_num, by rw [HS.out]; omega⟩
          case measure => simp [intOf]; omega
      · rw [List.take_of_length_le (by omega)] at hb ⊢
        by_cases h1 : n + tot ss + c.size + o.size ≤ 1048576
        · go_wp2
          go_ret
          exact ⟨rfl, true, rfl, by first | exact trivial | exact fun _ => h1⟩
        · go_wp2
          all_goals
            go_ret
            exact ⟨rfl, false, rfl, by simp⟩
  · go_enter Try.func30, Try.ntmps30
    go_wp2
    go_ret
    exact ⟨rfl, false, rfl, by simp⟩

set_option maxHeartbeats 400000 in
/-- zzHasPrefix at LC_. -/
theorem pfx32 (s : ByteArray) (w : World) (hs : s.size ≤ maxLen) :
    Calls Try.prog 32 #[.string s, .string ⟨#[76, 67, 95]⟩] w fun e w' => e = .returned (.bool (hasLC s)) ∧ w' = w := by
  unfold maxLen at hs
  by_cases h : 3 ≤ s.size
  · have c : (3 : Int) ≤ (s.size : Int) := by omega
    have hh : hasLC s = ((s.extract 0 3).toList == [76, 67, 95]) := by unfold hasLC sLC; rw [decide_eq_true h]; rfl
    have HH : Hid (hasLC s = ((s.extract 0 3).toList == [76, 67, 95])) := hh
    clear hh
    go_enter Try.func32, Try.ntmps32
    go_wp2
    all_goals
      go_ret
      exact ⟨by rw [HH.out]; first | rfl | simp_all, rfl⟩
  · have hh : hasLC s = false := by unfold hasLC; rw [decide_eq_false h]; rfl
    have HH : Hid (hasLC s = false) := hh
    have c : ¬ (3 : Int) ≤ (s.size : Int) := by omega
    clear hh
    go_enter Try.func32, Try.ntmps32
    go_wp2
    go_ret
    exact ⟨by rw [HH.out]; first | rfl | simp_all, rfl⟩

theorem look_round {nm : List UInt8} {ss : List ByteArray} {k : Nat} {s : ByteArray} (hsn : ss.take (k + 1) = ss.take k ++ [s]) : look nm (ss.take (k + 1)) = lookStep nm (look nm (ss.take k)) s := by
  rw [hsn, look_snoc]

set_option maxHeartbeats 400000 in
/-- zzLookup. -/
theorem look33 (ao : Option Addr) (n cap : Nat) (ss : List ByteArray) (b off : Nat) (nm : ByteArray) (w : World) (h : StrRow w ao n ss b off) (hn : n ≤ maxLen) (hs : ∀ s ∈ ss, s.size ≤ maxLen) :
    Calls Try.prog 33 #[.slice ao n cap, .string nm] w fun e w' => e = .returned (.string (look nm.toList ss)) ∧ ∃ q, w' = w.drewN q := by
  obtain ⟨hl, hao, hc⟩ := h
  unfold maxLen at hn
  go_enter Try.func33, Try.ntmps33
  go_wp2
  go_loopw [5, 12] (fun v i wr => ∃ k : Nat, k ≤ n ∧ i = .int .i64 k ∧ v = .string (look nm.toList (ss.take k)) ∧ ∃ q, wr = w.drewN q) (fun _ i _ => n - (intOf i).toNat)
  case atStart => exact ⟨0, Nat.zero_le _, rfl, rfl, 0, rfl⟩
  case round =>
    obtain ⟨k, hk, rfl, rfl, q, rfl⟩ := hrel
    by_cases hlt : k < n
    · have hcell := hc k hlt
      have hsn := take_snoc_str ss k (by omega)
      have hsz : (ss.getD k ByteArray.empty).size ≤ maxLen := hs _ (by rw [List.getD_eq_getElem?_getD, List.getElem?_eq_getElem (by omega)]; exact List.getElem_mem _)
      obtain rfl := hao (by omega)
      obtain ⟨s, hs'⟩ : ∃ s, s = ss.getD k ByteArray.empty := ⟨_, rfl⟩
      rw [← hs'] at hcell hsn hsz
      have HSN : Hid (look nm.toList (ss.take (k + 1)) = lookStep nm.toList (look nm.toList (ss.take k)) s) := look_round hsn
      clear hs' hsn hc hs
      cases h1 : (nameOf s).toList == nm.toList with
      | true =>
        have HE : Hid (look nm.toList (ss.take (k + 1)) = valOf s) := by show _ = _; rw [HSN.out, lookStep_eq (by simpa using h1)]
        go_wp2_with (go_at_call 28; refine (cut28 _ _ hsz).mono ?_; rintro e w' ⟨rfl, q', rfl⟩)
        go_roundw
        case rel => exact ⟨k + 1, by omega, by go_num, by rw [HE.out], q + q', rfl⟩
        case measure => simp [intOf]; omega
      | false =>
        have HE : Hid (look nm.toList (ss.take (k + 1)) = look nm.toList (ss.take k)) := by show _ = _; rw [HSN.out, lookStep_ne (by simpa using h1)]
        go_wp2_with (go_at_call 28; refine (cut28 _ _ hsz).mono ?_; rintro e w' ⟨rfl, q', rfl⟩)
        go_roundw
        case rel => exact ⟨k + 1, by omega, by go_num, by rw [HE.out], q + q', rfl⟩
        case measure => simp [intOf]; omega
    · rw [List.take_of_length_le (by omega)]
      go_wp2
      go_ret
      exact ⟨rfl, q, rfl⟩

theorem StrRow.drewN {w : World} {ao : Option Addr} {n : Nat} {ss : List ByteArray} {b off : Nat} (h : StrRow w ao n ss b off) (q : Nat) : StrRow (w.drewN q) ao n ss b off := h

set_option maxHeartbeats 400000 in
/-- zzEffective. -/
theorem eff31 (ao : Option Addr) (n cap : Nat) (ss : List ByteArray) (b off : Nat) (cat : ByteArray) (w : World) (h : StrRow w ao n ss b off) (hn : n ≤ maxLen) (hs : ∀ s ∈ ss, s.size ≤ maxLen) :
    Calls Try.prog 31 #[.slice ao n cap, .string cat] w fun e w' => e = .returned (.string (eff ss cat.toList)) ∧ ∃ q, w' = w.drewN q := by
  have HR : Hid (StrRow w ao n ss b off) := h
  have hl1 : (ByteArray.mk #[76, 67, 95, 65, 76, 76]).toList = sAll := by rw [ByteArray.toList_eq]; rfl
  have hl2 : (ByteArray.mk #[76, 65, 78, 71]).toList = sLang := by rw [ByteArray.toList_eq]; rfl
  have HL1 : Hid ((ByteArray.mk #[76, 67, 95, 65, 76, 76]).toList = sAll) := hl1
  have HL2 : Hid ((ByteArray.mk #[76, 65, 78, 71]).toList = sLang) := hl2
  have HS : Hid (∀ s ∈ ss, s.size ≤ maxLen) := hs
  obtain ⟨E, hE⟩ : ∃ E, E = eff ss cat.toList := ⟨_, rfl⟩
  have HE : Hid (E = eff ss cat.toList) := hE
  rw [← hE]
  clear h hl1 hl2 hs hE
  go_enter Try.func31, Try.ntmps31
  go_wp2_with fail
  refine (look33 ao n cap ss b off _ w HR.out hn HS.out).mono ?_
  rintro e w1 ⟨rfl, q, rfl⟩
  rw [HL1.out]
  cases ha : (look sAll ss).toList.isEmpty with
  | false =>
    go_wp2
    go_ret
    exact ⟨by rw [HE.out]; unfold eff; rw [ha]; rfl, q, rfl⟩
  | true =>
    go_wp2_with fail
    refine (look33 ao n cap ss b off _ _ (HR.out.drewN q) hn HS.out).mono ?_
    rintro e w1 ⟨rfl, q', rfl⟩
    cases hb : (look cat.toList ss).toList.isEmpty with
    | false =>
      go_wp2
      go_ret
      exact ⟨by rw [HE.out]; unfold eff; rw [ha, hb]; rfl, _, rfl⟩
    | true =>
      go_wp2_with fail
      refine (look33 ao n cap ss b off _ _ (HR.out.drewN (q + q')) hn HS.out).mono ?_
      rintro e w1 ⟨rfl, q'', rfl⟩
      rw [HL2.out]
      go_wp2
      go_ret
      exact ⟨by rw [HE.out]; unfold eff; rw [ha, hb]; rfl, _, rfl⟩

end Go.Proofs.Qxb6001160a
