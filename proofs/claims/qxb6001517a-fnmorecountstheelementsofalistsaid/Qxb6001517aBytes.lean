/-
  zzAppendStr, zzCloser, zzClone: the walks.
-/
import Derived.Test.Qxb6001517aKit
namespace Go.Proofs.Qxb6001517a
open Go.RowKit

/-- A string's bytes as numbers. -/
def nums (s : ByteArray) : List Int := s.data.toList.map fun c => (c.toNat : Int)
theorem nums_length (s : ByteArray) : (nums s).length = s.size := by
  unfold nums
  rw [List.length_map]
  rfl
theorem nums_take_succ (s : ByteArray) (k : Nat) (h : k < s.size) : (nums s).take (k + 1) = (nums s).take k ++ [(s[k].toNat : Int)] := by
  rw [getD_take_succ (nums s) k (by rw [nums_length]; exact h)]
  congr 2
  unfold nums
  rw [List.getD_eq_getElem?_getD, List.getElem?_map, List.getElem?_eq_getElem (by exact h)]
  rfl

set_option maxHeartbeats 1000000 in
/-- zzAppendStr, where there is room. -/
theorem appendStr24 (g n cap : Nat) (l : List Int) (s : ByteArray) (w : World) (hB : BRow w g n cap l) (hroom : n + s.size ≤ cap) (hcap : cap ≤ 16777216) :
    Calls Try.prog 24 #[.slice (some ⟨g, 0, none⟩) n cap, .string s] w fun e w' => e = .returned (.slice (some ⟨g, 0, none⟩) (n + s.size) cap) ∧ BRow w' g (n + s.size) cap (l ++ nums s) ∧ w.grownBy w' (some g) := by
  obtain ⟨i5, hi, hz0, hz1, hz2⟩ := info_parts Try.info5
  have HB : Hid (BRow w g n cap l) := hB
  clear hB
  go_enter Try.func24, Try.ntmps24
  go_wp2
  go_loopw [0, 5] (fun v i wr => ∃ k : Nat, k ≤ s.size ∧ i = .int .i64 k ∧ v = .slice (some ⟨g, 0, none⟩) (n + k) cap ∧ Hid (BRow wr g (n + k) cap (l ++ (nums s).take k)) ∧ w.grownBy wr (some g)) (fun _ i _ => s.size - (intOf i).toNat)
  case atStart => exact ⟨0, Nat.zero_le _, rfl, rfl, by simpa [Hid] using HB.out, World.grownBy.refl _ _⟩
  case round =>
    obtain ⟨k, hk, rfl, rfl, HO, hgr⟩ := hrel
    by_cases hlt : k < s.size
    · have HT : Hid ((nums s).take (k + 1) = (nums s).take k ++ [(s[k].toNat : Int)]) := nums_take_succ s k hlt
      go_wp2_with (at_builtin; refine wpList_append_fits _ rfl (.tmp 12) (.tmp 16) 22 rfl 0 5 i5 1 Try.underlying22 hi hz1 g (n + k) cap _ rfl (World.ownsRow.alloc HO.out _) ⟨wr.heap.size, 0, none⟩ 1 1 [.int .u8 (s[k].toNat : Int)] rfl rfl (cell_one_new _ _ _) (oneCell_int _) (by omega) ?_)
      intro w1 hown1 hgrow1
      have HO1 : Hid (BRow w1 g (n + (k + 1)) cap (l ++ (nums s).take (k + 1))) := by
        show BRow _ _ _ _ _
        rw [HT.out, ← List.append_assoc]
        exact brow_snoc hown1
      have hg1 : w.grownBy w1 (some g) := grown_trans (grown_alloc hgr _) hgrow1
      clear hown1 hgrow1
      go_wp2
      go_roundw
      case rel => exact ⟨k + 1, by omega, by go_num, rfl, HO1, hg1⟩
      case measure => simp [intOf]; omega
    · have hkm : k = s.size := by omega
      subst hkm
      have HO1 : Hid (BRow wr g (n + s.size) cap (l ++ nums s)) := by
        have := HO.out
        rw [List.take_of_length_le (by rw [nums_length]; omega)] at this
        exact this
      clear HO
      go_wp2
      go_ret
      exact ⟨rfl, HO1.out, hgr⟩

/-- The closing bracket of a kind. -/
def closer (k : Int) : Int := if k = 97 then 93 else 125

set_option maxHeartbeats 1000000 in
/-- zzCloser, where there is room. -/
theorem closer23 (g n cap : Nat) (l : List Int) (k : Int) (w : World) (hB : BRow w g n cap l) (hroom : n + 1 ≤ cap) :
    Calls Try.prog 23 #[.slice (some ⟨g, 0, none⟩) n cap, .int .u8 k] w fun e w' => e = .returned (.slice (some ⟨g, 0, none⟩) (n + 1) cap) ∧ BRow w' g (n + 1) cap (l ++ [closer k]) ∧ w.grownBy w' (some g) := by
  obtain ⟨i5, hi, hz0, hz1, hz2⟩ := info_parts Try.info5
  have HB : Hid (BRow w g n cap l) := hB
  clear hB
  by_cases hk : k = 97
  · have hb : (k == 97) = true := by simpa using hk
    have HC : Hid (closer k = 93) := by show _ = _; unfold closer; rw [if_pos hk]
    clear hk
    go_enter Try.func23, Try.ntmps23
    go_wp2_with (at_builtin; refine wpList_append_fits _ rfl _ _ 22 rfl 0 5 i5 1 Try.underlying22 hi hz1 g n cap _ rfl (World.ownsRow.alloc HB.out _) ⟨w.heap.size, 0, none⟩ 1 1 [.int .u8 93] rfl rfl (cell_one_new _ _ _) (oneCell_int _) (by omega) ?_)
    intro w1 hown1 hgrow1
    have HO1 : Hid (BRow w1 g (n + 1) cap (l ++ [closer k])) := by show BRow _ _ _ _ _; rw [HC.out]; exact brow_snoc hown1
    have hg1 : w.grownBy w1 (some g) := grown_trans (World.grownBy_alloc _ _ _) hgrow1
    clear hown1 hgrow1
    go_wp2
    go_ret
    exact ⟨rfl, HO1.out, hg1⟩
  · have hb : (k == 97) = false := by simpa using hk
    have HC : Hid (closer k = 125) := by show _ = _; unfold closer; rw [if_neg hk]
    clear hk
    go_enter Try.func23, Try.ntmps23
    go_wp2_with (at_builtin; refine wpList_append_fits _ rfl _ _ 22 rfl 0 5 i5 1 Try.underlying22 hi hz1 g n cap _ rfl (World.ownsRow.alloc HB.out _) ⟨w.heap.size, 0, none⟩ 1 1 [.int .u8 125] rfl rfl (cell_one_new _ _ _) (oneCell_int _) (by omega) ?_)
    intro w1 hown1 hgrow1
    have HO1 : Hid (BRow w1 g (n + 1) cap (l ++ [closer k])) := by show BRow _ _ _ _ _; rw [HC.out]; exact brow_snoc hown1
    have hg1 : w.grownBy w1 (some g) := grown_trans (World.grownBy_alloc _ _ _) hgrow1
    clear hown1 hgrow1
    go_wp2
    go_ret
    exact ⟨rfl, HO1.out, hg1⟩

/-- It returns a slice of new memory, or nil, that holds l. -/
def RetRow (w w' : World) (n : Nat) (l : List Int) (e : Ending) : Prop := ∃ ao c b, e = .returned (.slice ao n c) ∧ ARow w' ao n l b 0 ∧ (0 < n → w.heap.size ≤ b)

set_option maxHeartbeats 1000000 in
/-- zzClone. -/
theorem clone9 (ao : Option Addr) (n c : Nat) (l : List Int) (b off : Nat) (w : World) (hA : ARow w ao n l b off) (hn : n ≤ 1048576) :
    Calls Try.prog 9 #[.slice ao n c] w fun e w' => Below w.heap.size w w' ∧ RetRow w w' n l e := by
  obtain ⟨i5, hi, hz0, hz1, hz2⟩ := info_parts Try.info5
  have hnil := fun wx => Lib.run_eql_slice_nil (P := Try.prog) wx 22 5 ao n c 0 0 Try.underlying22
  have HA : Hid (ARow w ao n l b off) := hA
  clear hA
  cases ao with
  | none =>
    have h0 : n = 0 := by
      by_cases e : 0 < n
      · have := (HA.out.2.1 e).1; cases this
      · omega
    subst h0
    simp only [Option.isNone_none] at hnil
    go_enter Try.func9, Try.ntmps9
    go_wp2
    go_ret
    exact ⟨Below.refl _ _, none, 0, b, rfl, ⟨HA.out.1, fun h => absurd h (Nat.lt_irrefl _), fun i hi => absurd hi (Nat.not_lt_zero _)⟩, fun h => absurd h (Nat.lt_irrefl _)⟩
  | some a =>
    simp only [Option.isNone_some] at hnil
    go_enter Try.func9, Try.ntmps9
    go_wp2_with (at_make; refine wpList_make_own _ rfl _ _ 22 rfl 0 5 i5 (.int .u8 0) 1 Try.underlying22 hi hz0 hz1 .i64 .i64 _ n rfl rfl rfl ?m2 ?m3 (Nat.zero_le _) ?_)
    case m2 => rw [hz2]; omega
    case m3 => unfold maxLen; omega
    intro w0 hown0 hgrow0
    have hb0 : Below w.heap.size w w0 := below_of_grown hgrow0 (fun g hg => by cases hg)
    have HO0 : Hid (BRow w0 w.heap.size 0 n ([] ++ l.take 0)) := hown0
    clear hown0 hgrow0 hnil
    go_wp2_with fail
    go_loopw [3, 4] (fun v i wr => ∃ k : Nat, k ≤ n ∧ i = .int .i64 k ∧ v = .slice (some ⟨w.heap.size, 0, none⟩) k n ∧ Hid (BRow wr w.heap.size k n ([] ++ l.take k)) ∧ Below w.heap.size w wr) (fun _ i _ => n - (intOf i).toNat)
    case atStart => exact ⟨0, Nat.zero_le _, rfl, rfl, HO0, hb0⟩
    case round =>
      obtain ⟨k, hk, rfl, rfl, HO, hbel⟩ := hrel
      by_cases hlt : k < n
      · have hAr := HA.out.below hbel (fun h0 => (HA.out.2.1 h0).2)
        have hcell := hAr.2.2 k hlt
        obtain ⟨hao, _⟩ := hAr.2.1 (by omega)
        injection hao with hao
        subst hao
        have hts := getD_take_succ l k (by rw [HA.out.1]; exact hlt)
        obtain ⟨z, hz⟩ : ∃ z, z = l.getD k 0 := ⟨_, rfl⟩
        rw [← hz] at hcell hts
        have HT : Hid (l.take (k + 1) = l.take k ++ [z]) := hts
        clear hz hts hAr
        go_wp2_with (at_builtin; refine wpList_append_fits _ rfl (.tmp 16) (.tmp 21) 22 rfl 0 5 i5 1 Try.underlying22 hi hz1 w.heap.size k n _ rfl (World.ownsRow.alloc HO.out _) ⟨wr.heap.size, 0, none⟩ 1 1 [.int .u8 z] rfl rfl (cell_one_new _ _ _) (oneCell_int _) (by omega) ?_)
        intro w1 hown1 hgrow1
        have HO1 : Hid (BRow w1 w.heap.size (k + 1) n ([] ++ l.take (k + 1))) := by
          show BRow _ _ _ _ _
          rw [HT.out, ← List.append_assoc]
          exact brow_snoc hown1
        have hb1 : Below w.heap.size w w1 := (hbel.alloc hbel.size _).grown hgrow1 (by have := hbel.size; simp; omega) (fun g hg => by cases hg; exact Nat.le_refl _)
        clear hown1 hgrow1
        go_wp2
        go_roundw
        case rel => exact ⟨k + 1, by omega, by go_num, rfl, HO1, hb1⟩
        case measure => simp [intOf]; omega
      · have hkm : k = n := by omega
        subst hkm
        have HO1 : Hid (BRow wr w.heap.size k k l) := by
          have := HO.out
          rw [List.take_of_length_le (by rw [HA.out.1]; omega)] at this
          exact this
        clear HO
        go_wp2
        go_ret
        exact ⟨hbel, _, _, w.heap.size, rfl, HO1.out.arow, fun _ => Nat.le_refl _⟩

end Go.Proofs.Qxb6001517a
