/-
  englishMessages as a plain function on lists of strings.
-/
import Derived.Test.Qxb6001160aCut
import Derived.Test.Qxb6001160aClone
import Derived.Lib.Strings
namespace Go.Proofs.Qxb6001160a
open Go.RowKit

def sAll : List UInt8 := [76, 67, 95, 65, 76, 76]
def sMsg : List UInt8 := [76, 67, 95, 77, 69, 83, 83, 65, 71, 69, 83]
def sLge : List UInt8 := [76, 65, 78, 71, 85, 65, 71, 69]
def sLang : List UInt8 := [76, 65, 78, 71]
def sLC : List UInt8 := [76, 67, 95]
/-- "LC_MESSAGES=C" -/
def bMsgC : ByteArray := ⟨#[76, 67, 95, 77, 69, 83, 83, 65, 71, 69, 83, 61, 67]⟩
/-- "LANG=" -/
def bLangE : ByteArray := ⟨#[76, 65, 78, 71, 61]⟩

/-- Is the entry kept in the first round? -/
def keepB (s : ByteArray) : Bool := !((nameOf s).toList == sAll || (nameOf s).toList == sMsg || (nameOf s).toList == sLge)
/-- Does it begin with LC_? -/
def hasLC (s : ByteArray) : Bool := decide (3 ≤ s.size) && (s.extract 0 3).toList == sLC
/-- Is the entry struck where LC_ALL is set? -/
def delB (s : ByteArray) : Bool := (nameOf s).toList == sLang || hasLC (nameOf s)
def allStep (a s : ByteArray) : ByteArray := if (nameOf s).toList == sAll then valOf s else a
def allOf (ss : List ByteArray) : ByteArray := ss.foldl allStep ByteArray.empty
def keptOf (ss : List ByteArray) : List ByteArray := ss.filter keepB
def midOf (ss : List ByteArray) : List ByteArray := if (allOf ss).toList.isEmpty then keptOf ss else ((keptOf ss).filter fun s => !delB s) ++ [bLangE ++ allOf ss]
def emOf (ss : List ByteArray) : List ByteArray := midOf ss ++ [bMsgC]

theorem allOf_snoc (ss : List ByteArray) (s : ByteArray) : allOf (ss ++ [s]) = allStep (allOf ss) s := by simp [allOf, List.foldl_append]
theorem keptOf_snoc (ss : List ByteArray) (s : ByteArray) : keptOf (ss ++ [s]) = if keepB s then keptOf ss ++ [s] else keptOf ss := by
  unfold keptOf
  rw [List.filter_append]
  by_cases h : keepB s = true <;> simp [h]

theorem take_snoc_str (ss : List ByteArray) (k : Nat) (h : k < ss.length) : ss.take (k + 1) = ss.take k ++ [ss.getD k ByteArray.empty] := by
  rw [List.take_succ_eq_append_getElem h]
  simp [h]

theorem valOf_size (s : ByteArray) : (valOf s).size ≤ s.size := by
  unfold valOf
  split
  · simp
  · simp [ByteArray.size_extract]
theorem nameOf_size (s : ByteArray) : (nameOf s).size ≤ s.size := by
  unfold nameOf
  split
  · exact Nat.le_refl _
  · simp [ByteArray.size_extract]; omega

theorem allOf_size (N : Nat) (ss : List ByteArray) (h : ∀ s ∈ ss, s.size ≤ N) : (allOf ss).size ≤ N := by
  unfold allOf
  have : ∀ (l : List ByteArray) (a : ByteArray), a.size ≤ N → (∀ s ∈ l, s.size ≤ N) → (l.foldl allStep a).size ≤ N := by
    intro l
    induction l with
    | nil => intro a ha _; exact ha
    | cons s l ih =>
      intro a ha hl
      rw [List.foldl_cons]
      refine ih _ ?_ (fun x hx => hl x (List.mem_cons_of_mem _ hx))
      unfold allStep
      split
      · exact Nat.le_trans (valOf_size s) (hl s List.mem_cons_self)
      · exact ha
  exact this ss _ (by simp) h

theorem keptOf_length (ss : List ByteArray) : (keptOf ss).length ≤ ss.length := List.length_filter_le _ _

end Go.Proofs.Qxb6001160a
