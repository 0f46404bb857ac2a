/-
  A slice of strings as the walks are told of it; zzBytes_..: it reads the slice and reckons a bound.
-/
import Derived.Test.Qxb6001354aRows
import Derived.WalkKit
import Derived.WalkSpells
import Derived.WalkLawsBesides
namespace Go.Proofs.Qxb6001354a
open Go.RowKit

/-- A slice of strings as a walk is told of it: its elements are ss; where there is one, it lies at block b from off on. -/
def StrRow (w : World) (ao : Option Addr) (n : Nat) (ss : List ByteArray) (b off : Nat) : Prop :=
  ss.length = n ∧ (0 < n → ao = some ⟨b, off, none⟩) ∧ ∀ i, i < n → w.cell? ⟨b, off + i, none⟩ = some (.string (ss.getD i ByteArray.empty))

/-- The bytes of all strings. -/
def tot (ss : List ByteArray) : Nat := (ss.map ByteArray.size).sum

theorem tot_take_succ (ss : List ByteArray) (k : Nat) (h : k < ss.length) : tot (ss.take (k + 1)) = tot (ss.take k) + (ss.getD k ByteArray.empty).size := by
  unfold tot
  rw [List.take_succ_eq_append_getElem h]
  simp only [List.map_append, List.map_cons, List.map_nil, List.sum_append, List.sum_cons, List.sum_nil, List.getD_eq_getElem?_getD, List.getElem?_eq_getElem h, Option.getD_some]
  omega


theorem size_le_tot : ∀ (ss : List ByteArray) (k : Nat), k < ss.length → (ss.getD k ByteArray.empty).size ≤ tot ss
  | [], _, h => absurd h (Nat.not_lt_zero _)
  | s :: r, 0, _ => by simp [tot]
  | s :: r, k + 1, h => by
    have := size_le_tot r k (by simpa using h)
    simp only [List.getD_cons_succ, tot, List.map_cons, List.sum_cons] at this ⊢
    omega

/-- It returns a bool r of which 'p r' holds. -/
def RetBoolS (p : Bool → Prop) (e : Ending) : Prop := ∃ r : Bool, e = .returned (.bool r) ∧ p r

set_option maxHeartbeats 400000 in
theorem bytes5 (ao : Option Addr) (n cap : Nat) (ss : List ByteArray) (b off : Nat) (w : World) (h : StrRow w ao n ss b off) (hn : n ≤ maxLen) (hs : ∀ s ∈ ss, s.size ≤ maxLen) :
    Calls Try.prog 5 #[.slice ao n cap] w fun e w' => w' = w ∧ RetBoolS (fun r => r = true → n + tot ss ≤ 1048576) e := by
  obtain ⟨hl, hao, hc⟩ := h
  unfold maxLen at hn hs
  by_cases hbig : n ≤ 1048576
  · go_enter Try.func5, Try.ntmps5
    go_wp2
    go_loop [3, 4] (fun z i => ∃ k : Nat, k ≤ n ∧ i = .int .i64 k ∧ z = .int .i64 ((n + tot (ss.take k) : Nat) : Int) ∧ n + tot (ss.take k) ≤ 1048576) (fun _ i => n - (intOf i).toNat)
    case atStart => exact ⟨0, Nat.zero_le _, rfl, by simp [tot], by simpa [tot] using hbig⟩
    case round =>
      obtain ⟨k, hk, rfl, rfl, hb⟩ := hrel
      by_cases hlt : k < n
      · have hsucc := tot_take_succ ss k (by omega)
        have hcell := hc k hlt
        have hmem : (ss.getD k ByteArray.empty).size ≤ 9223372036854775807 := hs _ (by rw [List.getD_eq_getElem?_getD, List.getElem?_eq_getElem (by omega)]; exact List.getElem_mem _)
        obtain rfl := hao (by omega)
        obtain ⟨s, hs'⟩ : ∃ s, s = ss.getD k ByteArray.empty := ⟨_, rfl⟩
        rw [← hs'] at hcell hsucc hmem
        obtain ⟨T, hT⟩ : ∃ T, T = tot (ss.take k) := ⟨_, rfl⟩
        rw [← hT] at hsucc hb ⊢
        have HS : Hid (tot (ss.take (k + 1)) = T + s.size) := hsucc
        clear hs' hT hsucc hc hs hl
        go_wp2
        · go_ret
          exact ⟨rfl, false, rfl, by simp⟩
        · go_ret
          exact ⟨rfl, false, rfl, by simp⟩
        · go_round
          case rel => exact ⟨k + 1, by omega, by go_num, by rw [HS.out]; go_num, by rw [HS.out]; omega⟩
          case measure => simp [intOf]; omega
      · go_wp2
        go_ret
        exact ⟨rfl, true, rfl, fun _ => by rw [List.take_of_length_le (by omega)] at hb; exact hb⟩
  · go_enter Try.func5, Try.ntmps5
    go_wp2
    go_ret
    exact ⟨rfl, false, rfl, by simp⟩

end Go.Proofs.Qxb6001354a
