/-
  zzCloneStrings: a row of the call's own that holds the same strings.
-/
import Derived.Test.Qxb6001354aBounds
import Derived.Deep.OwnRows
import Derived.Lib.SliceRun
namespace Go.Proofs.Qxb6001354a
open Go.RowKit

theorem Try.infoS : (Try.prog.info? 9).map (fun i => (i.zero, i.size, i.bytes)) = some (some (.string ByteArray.empty), 1, 16) := by kernel_rfl

/-- It returns a slice of the call's own that holds the strings ss. -/
def RetStrs (base : Nat) (w' : World) (ss : List ByteArray) (e : Ending) : Prop := ∃ v, e = .returned v ∧ w'.ownsRow base 9 1 v ss.length (ss.map Value.string)

theorem map_string_getElem? (ss : List ByteArray) (i : Nat) (h : i < ss.length) : (ss.map Value.string)[i]? = some (.string (ss.getD i ByteArray.empty)) := by
  simp [h]

theorem strRow_of_owns {w : World} {base : Nat} {v : Value} {ss : List ByteArray} (h : w.ownsRow base 9 1 v ss.length (ss.map Value.string)) :
    ∃ ao cap b, v = .slice ao ss.length cap ∧ StrRow w ao ss.length ss b 0 ∧ (0 < ss.length → base ≤ b ∧ b < w.heap.size) := by
  rcases h.2 with ⟨rfl, h0⟩ | ⟨g, cap, cur, rfl, hb, hg, hn, _⟩
  · exact ⟨none, 0, 0, by rw [h0], ⟨rfl, fun h => by omega, fun i hi => by omega⟩, fun h => by omega⟩
  · refine ⟨some ⟨g, 0, none⟩, cap, g, rfl, ⟨rfl, fun _ => rfl, fun i hi => ?_⟩, fun _ => ⟨hb, ?_⟩⟩
    · rw [Nat.zero_add, h.cellAt i (by omega)]
      exact map_string_getElem? ss i hi
    · exact (Array.getElem?_eq_some_iff.1 hg).1

theorem clone_cells (ss : List ByteArray) (k : Nat) (h : k < ss.length) :
    ((ss.take k).map Value.string ++ List.replicate (ss.length - k) (Value.string ByteArray.empty)).set k (Value.string (ss.getD k ByteArray.empty)) = (ss.take (k + 1)).map Value.string ++ List.replicate (ss.length - (k + 1)) (Value.string ByteArray.empty) := by
  rw [List.set_append_right _ _ (by simp; omega)]
  have e : ss.length - k = (ss.length - (k + 1)) + 1 := by omega
  rw [e, List.replicate_succ]
  simp only [List.length_map, List.length_take, Nat.min_eq_left (Nat.le_of_lt h), Nat.sub_self, List.set_cons_zero]
  rw [List.take_succ_eq_append_getElem h, List.map_append, List.append_assoc]
  simp only [List.map_cons, List.map_nil, List.cons_append, List.nil_append, List.getD_eq_getElem?_getD, List.getElem?_eq_getElem h, Option.getD_some]

set_option maxHeartbeats 400000 in
theorem clone9 (ao : Option Addr) (n cap : Nat) (ss : List ByteArray) (b off : Nat) (w : World) (h : StrRow w ao n ss b off) (hn : n ≤ 1048576) (hb : 0 < n → b < w.heap.size) :
    Calls Try.prog 9 #[.slice ao n cap] w fun e w' => Below w.heap.size w w' ∧ RetStrs w.heap.size w' ss e := by
  obtain ⟨hl, hao, hc⟩ := h
  have hnil := fun wx => Lib.run_eql_slice_nil (P := Try.prog) wx 22 9 ao n cap 0 0 Try.underlying22
  cases ao with
  | none =>
    have h0 : n = 0 := by
      by_cases e : 0 < n
      · exact absurd (hao e) (by simp)
      · omega
    subst h0
    have hss : ss = [] := List.length_eq_zero_iff.1 hl
    subst hss
    simp only [Option.isNone_none] at hnil
    clear hl hao hc
    go_enter Try.func9, Try.ntmps9
    go_wp2
    go_ret
    exact ⟨Below.refl _ _, _, rfl, World.ownsRow_nil _ _ _ _⟩
  | some a =>
    simp only [Option.isNone_some] at hnil
    have hmk := run_make_row' (P := Try.prog) 22 9 (.string ByteArray.empty) 16 Try.underlying22 Try.infoS rfl .i64 .i64 n (by omega) (by omega)
    go_enter Try.func9, Try.ntmps9
    go_wp2
    go_loopw [4] (fun i wr => ∃ k : Nat, k ≤ n ∧ i = .int .i64 k ∧ Hid (wr.ownsRow w.heap.size 9 1 (.slice (some ⟨w.heap.size, 0, none⟩) n n) n ((ss.take k).map Value.string ++ List.replicate (ss.length - k) (.string ByteArray.empty))) ∧ Below w.heap.size w wr)
      (fun i _ => n - (intOf i).toNat)
    case atStart =>
      refine ⟨0, Nat.zero_le _, rfl, ?_, (Below.refl _ _).alloc (Nat.le_refl _) _⟩
      have := World.ownsRow_lit (base := w.heap.size) (e := 9) (size := 1) w (madeCells #[.string ByteArray.empty] n) n (Nat.le_refl _) (by unfold maxLen; omega) (by simp [madeCells])
      rw [toList_madeCells_one] at this
      simpa [Hid, hl] using this
    case round =>
      obtain ⟨k, hk, rfl, HO, hbel⟩ := hrel
      by_cases hlt : k < n
      · have hcell : wr.cell? ⟨b, off + k, none⟩ = some (.string (ss.getD k ByteArray.empty)) := (hbel.cell (p := ⟨b, off + k, none⟩) (hb (by omega))).trans (hc k hlt)
        have hfz := HO.out.frozenAt k
        have hold := HO.out.cellAt k (by omega)
        obtain ⟨old, hold'⟩ : ∃ old, wr.cell? ⟨w.heap.size, k, none⟩ = some old := by
          rw [hold]
          exact ⟨_, List.getElem?_eq_getElem (by simp; omega)⟩
        have hst := HO.out.stored k (.string (ss.getD k ByteArray.empty))
        rw [clone_cells ss k (by omega)] at hst
        obtain rfl : a = ⟨b, off, none⟩ := by have := hao (by omega); simpa using this
        obtain ⟨s, hs'⟩ : ∃ s, s = ss.getD k ByteArray.empty := ⟨_, rfl⟩
        rw [← hs'] at hcell hst
        have HS : Hid _ := hst
        have hne : b ≠ w.heap.size := by have := hb (by omega); omega
        clear hs' hc hold hst hmk hl
        go_wp2
        go_roundw
        case rel => exact ⟨k + 1, by omega, by go_num, HS.out.1, hbel.grown HS.out.2 hbel.size (fun g hg => by cases hg; exact Nat.le_refl _)⟩
        case measure => simp [intOf]; omega
      · go_wp2
        go_ret
        have hk' : k = n := by omega
        subst hk'
        refine ⟨hbel, _, rfl, ?_⟩
        have := HO.out
        rw [← hl]
        rw [← hl, List.take_length] at this
        simpa using this

end Go.Proofs.Qxb6001354a
