/-
  strings.Index: the dump's text is the one of which the library's contract was proved (the table of numbers and a fact a field, written by the shelf's own tool for this program); the contract at this dump.
-/
import Derived.Shelf.LaysM
import Derived.Shelf.Strings.Search3
import Derived.Test.Qxb6001354aRows
namespace Go.Proofs.Qxb6001354a
open Go.Shelf

def Try.laysM143_ren : Go.Shelf.Ren := ⟨fun | 143 => 16 | 219 => 19 | 217 => 20 | 225 => 21 | 224 => 22 | 267 => 23 | 266 => 24 | 314 => 25 | n => n, fun | 9 => 9 | 3 => 3 | 4 => 4 | 5 => 5 | 46 => 36 | 146 => 38 | 51 => 37 | n => n, fun | 1 => 0 | n => n⟩
theorem Try.laysM143 : Go.Proofs.LaysM.n143 Try.prog Try.laysM143_ren := {
  mixed := by kernel_rfl
  f143 := Try.func16.trans (congrArg some (by kernel_rfl))
  f217 := Try.func20.trans (congrArg some (by kernel_rfl))
  f219 := Try.func19.trans (congrArg some (by kernel_rfl))
  f224 := Try.func22.trans (congrArg some (by kernel_rfl))
  f225 := Try.func21.trans (congrArg some (by kernel_rfl))
  f266 := Try.func24.trans (congrArg some (by kernel_rfl))
  f267 := Try.func23.trans (congrArg some (by kernel_rfl))
  f314 := Try.func25.trans (congrArg some (by kernel_rfl))
  t3 := Try.underlying3
  a3 := Try.isAgg3
  z3 := Try.sizeOf3
  v3 := Try.zeroValue3
  t4 := Try.underlying4
  a4 := Try.isAgg4
  z4 := Try.sizeOf4
  v4 := Try.zeroValue4
  t5 := Try.underlying5
  a5 := Try.isAgg5
  z5 := Try.sizeOf5
  v5 := Try.zeroValue5
  t9 := Try.underlying9
  a9 := Try.isAgg9
  z9 := Try.sizeOf9
  v9 := Try.zeroValue9
  t46 := Try.underlying36
  a46 := Try.isAgg36
  z46 := Try.sizeOf36
  v46 := Try.zeroValue36
  t51 := Try.underlying37
  a51 := Try.isAgg37
  z51 := Try.sizeOf37
  v51 := Try.zeroValue37
  t146 := Try.underlying38
  a146 := Try.isAgg38
  z146 := Try.sizeOf38
  v146 := Try.zeroValue38
  g1 := by kernel_rfl
  i3 := by kernel_rfl
  i4 := by kernel_rfl
  i5 := by kernel_rfl
  i9 := by kernel_rfl
  i46 := by kernel_rfl
  i51 := by kernel_rfl
  i146 := by kernel_rfl
  m1 := by kernel_rfl
  s1_3 := fun w h => Go.Proofs.cell_of_shapedOpen_int (zero := #[.int .i64 0]) (t := 3) h (of_decide_eq_true (by kernel_rfl)) (by kernel_rfl) rfl (by kernel_rfl) (by kernel_rfl) Try.underlying3 }

/-- strings.Index at this dump. -/
theorem index16 (s sub : ByteArray) (m : Int) (w : World) (hs : s.size < 4294967281) (hm : w.cell? ⟨0, 0, none⟩ = some (.int .i64 m)) :
    Calls Try.prog 16 #[.string s, .string sub] w fun e w' => e = .returned (.int .i64 (Lib.index s.data.toList sub.data.toList)) ∧ w' = w :=
  Any.strings_Index (P := Try.prog) (ρ := Try.laysM143_ren) { Try.laysM143 with } s sub m w hs hm

/-- internal/bytealg.MaxLen holds some int. -/
theorem maxLenCell (w : World) (h : w.ShapedOpen Try.prog) : ∃ m, w.cell? ⟨0, 0, none⟩ = some (.int .i64 m) := Try.laysM143.s1_3 w h

end Go.Proofs.Qxb6001354a
