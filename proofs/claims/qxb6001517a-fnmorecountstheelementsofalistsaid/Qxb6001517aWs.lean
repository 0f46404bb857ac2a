/-
  zzWs, zzElem, zzBlank, strings.IndexByte, zzBytes: the walks.
-/
import Derived.Test.Qxb6001517aSkip
import Derived.Test.Qxb6001517aBytes
import Derived.Lib.IndexMore
namespace Go.Proofs.Qxb6001517a
open Go.RowKit

/-- A JSON blank. -/
def isB (c : Int) : Bool := c == 32 || c == 9 || c == 10 || c == 13
/-- What ends a bare token. -/
def isStop (c : Int) : Bool := c == 44 || c == 93 || c == 125 || isB c
def Blanks (b : List Int) : Prop := ∀ c ∈ b, isB c = true
/-- The four kinds of elements. -/
def Elem (t : List Int) : Prop := t = [45, 49, 46, 53, 101, 51] ∨ t = [34, 120, 44, 93, 92, 34, 34] ∨ t = [91, 49, 44, 123, 34, 97, 34, 58, 91, 93, 125, 93] ∨ t = [110, 117, 108, 108]

/-- It returns a string s of which 'p s' holds. -/
def RetStr (p : ByteArray → Prop) (e : Ending) : Prop := ∃ s : ByteArray, e = .returned (.string s) ∧ p s
/-- It returns a bool r of which 'p r' holds. -/
def RetB (p : Bool → Prop) (e : Ending) : Prop := ∃ r : Bool, e = .returned (.bool r) ∧ p r
def RetNum (p : Int → Prop) (e : Ending) : Prop := ∃ c : Int, e = .returned (.int .u8 c) ∧ p c

set_option maxHeartbeats 1000000 in
theorem ws26 (k : Int) (w : World) (h0 : 0 ≤ k) (h1 : k ≤ 255) :
    Calls Try.prog 26 #[.int .u8 k] w fun e w' => w' = w ∧ RetStr (fun s => s.size ≤ 3 ∧ Blanks (nums s)) e := by
  have h := Int.emod_nonneg k (show (8 : Int) ≠ 0 by decide)
  have h' := Int.emod_lt_of_pos k (show (0 : Int) < 8 by decide)
  have hc : k % 8 = 0 ∨ k % 8 = 1 ∨ k % 8 = 2 ∨ k % 8 = 3 ∨ k % 8 = 4 ∨ k % 8 = 5 ∨ k % 8 = 6 ∨ k % 8 = 7 := by omega
  clear h h'
  rcases hc with h | h | h | h | h | h | h | h
  all_goals
    go_enter Try.func26, Try.ntmps26
    go_wp2
    go_ret
    exact ⟨rfl, _, rfl, by decide, by unfold Blanks; decide⟩

set_option maxHeartbeats 1000000 in
theorem elem27 (k : Int) (w : World) (h0 : 0 ≤ k) (h1 : k ≤ 255) :
    Calls Try.prog 27 #[.int .u8 k] w fun e w' => w' = w ∧ RetStr (fun s => s.size ≤ 12 ∧ Elem (nums s)) e := by
  have h := Int.emod_nonneg k (show (4 : Int) ≠ 0 by decide)
  have h' := Int.emod_lt_of_pos k (show (0 : Int) < 4 by decide)
  have hc : k % 4 = 0 ∨ k % 4 = 1 ∨ k % 4 = 2 ∨ k % 4 = 3 := by omega
  clear h h'
  rcases hc with h | h | h | h
  all_goals
    go_enter Try.func27, Try.ntmps27
    go_wp2
    go_ret
    exact ⟨rfl, _, rfl, by decide, by unfold Elem; decide⟩

set_option maxHeartbeats 1000000 in
theorem blank28 (k : Int) (w : World) (h0 : 0 ≤ k) (h1 : k ≤ 255) :
    Calls Try.prog 28 #[.int .u8 k] w fun e w' => w' = w ∧ RetNum (fun c => isB c = true) e := by
  have h := Int.emod_nonneg k (show (4 : Int) ≠ 0 by decide)
  have h' := Int.emod_lt_of_pos k (show (0 : Int) < 4 by decide)
  have hc : k % 4 = 0 ∨ k % 4 = 1 ∨ k % 4 = 2 ∨ k % 4 = 3 := by omega
  clear h h'
  rcases hc with h | h | h | h
  all_goals
    go_enter Try.func28, Try.ntmps28
    go_wp2
    go_ret
    exact ⟨rfl, _, rfl, by decide⟩

set_option maxHeartbeats 400000 in
theorem idx33 (s : ByteArray) (c : Int) (w : World) :
    Calls Try.prog 33 #[.string s, .int .u8 c] w fun e w' => e = .returned (.int .i64 (Lib.indexByte s.data.toList c.toNat.toUInt8)) ∧ w' = w := by
  go_enter Try.func33, Try.ntmps33
  go_wp2
  rw [run_callFunc_extern Try.func34 (by kernel_rfl) (by kernel_rfl) (by kernel_rfl) (e := Extern.BytealgIndexByte.indexByte) (by kernel_rfl), Lib.run_indexByteString]
  simp only [Result.andThen]
  rw [Oper.upon_value]
  go_wp2
  go_ret
  exact ⟨rfl, rfl⟩

set_option maxHeartbeats 400000 in
theorem idx31 (s : ByteArray) (c : Int) (w : World) :
    Calls Try.prog 31 #[.string s, .int .u8 c] w fun e w' => e = .returned (.int .i64 (Lib.indexByte s.data.toList c.toNat.toUInt8)) ∧ w' = w := by
  go_enter Try.func31, Try.ntmps31
  go_wp2_with (go_at_call 33; refine (idx33 _ _ _).mono ?_; rintro e w' ⟨rfl, rfl⟩)
  go_ret
  exact ⟨rfl, rfl⟩

set_option maxHeartbeats 1000000 in
theorem bytes18 (a0 a1 a2 : Option Addr) (n0 c0 n1 c1 n2 c2 : Nat) (w : World) (h0 : n0 ≤ maxLen) (h1 : n1 ≤ maxLen) (h2 : n2 ≤ maxLen) :
    Calls Try.prog 18 #[.slice a0 n0 c0, .slice a1 n1 c1, .slice a2 n2 c2] w fun e w' => w' = w ∧ RetB (fun r => r = true → n0 + n1 + n2 ≤ 1048576) e := by
  unfold maxLen at h0 h1 h2
  by_cases h : n0 + n1 + n2 ≤ 1048576
  · go_enter Try.func18, Try.ntmps18
    go_wp2
    go_ret
    exact ⟨rfl, true, rfl, by first | exact fun _ => h | exact trivial⟩
  · go_enter Try.func18, Try.ntmps18
    go_wp2
    all_goals
      go_ret
      exact ⟨rfl, false, rfl, by simp⟩

end Go.Proofs.Qxb6001517a
