/-
  Rows of bytes: what the walks carry.
-/
import Derived.Test.Qxb6001517aRows
import Derived.WalkKit
import Derived.WalkSpells
import Derived.WalkLawsBesides
import Derived.Lib.SliceRun
namespace Go.Proofs.Qxb6001517a
open Go.RowKit

/-- Numbers as cells of bytes. -/
def bc (l : List Int) : List Value := l.map (Value.int .u8)
theorem bc_append (a b : List Int) : bc (a ++ b) = bc a ++ bc b := by simp [bc]
theorem bc_length (l : List Int) : (bc l).length = l.length := by simp [bc]

/-- The slice of n bytes at the head of block g, room for cap, holds l. -/
def BRow (w : World) (g n cap : Nat) (l : List Int) : Prop := w.ownsRow 0 5 1 (.slice (some ⟨g, 0, none⟩) n cap) n (bc l)

/-- A slice of bytes that is only read: its elements are l; where there is one, it lies at block b from off on. -/
def ARow (w : World) (ao : Option Addr) (n : Nat) (l : List Int) (b off : Nat) : Prop :=
  l.length = n ∧ (0 < n → ao = some ⟨b, off, none⟩ ∧ b < w.heap.size) ∧ ∀ i, i < n → w.cell? ⟨b, off + i, none⟩ = some (.int .u8 (l.getD i 0))

theorem BRow.len {w : World} {g n cap : Nat} {l : List Int} (h : BRow w g n cap l) : l.length = n := by
  have := h.1
  rw [bc_length] at this
  omega
theorem BRow.lt {w : World} {g n cap : Nat} {l : List Int} (h : BRow w g n cap l) : g < w.heap.size := by
  rcases h.2 with ⟨h, _⟩ | ⟨g', cap', cur, h, _, hg, _⟩
  · cases h
  · injection h with h1 _ _
    injection h1 with h1
    injection h1 with h1
    subst h1
    exact (Array.getElem?_eq_some_iff.1 hg).1
theorem BRow.kept {w w' : World} {g n cap : Nat} {l : List Int} {row : Option Nat} (h : BRow w g n cap l) (hg : w.grownBy w' row) (hne : some g ≠ row) : BRow w' g n cap l :=
  World.ownsRow.kept h hg (.inr hne)
theorem BRow.alloc {w : World} {g n cap : Nat} {l : List Int} (h : BRow w g n cap l) (o : Obj) : BRow (w.alloc o) g n cap l := World.ownsRow.alloc h o
theorem BRow.cell {w : World} {g n cap : Nat} {l : List Int} (h : BRow w g n cap l) (i : Nat) (hi : i < n) : w.cell? ⟨g, i, none⟩ = some (.int .u8 (l.getD i 0)) := by
  have hl := h.len
  rw [World.ownsRow.cellAt h i (by omega)]
  simp [bc, show i < l.length by omega]
theorem BRow.arow {w : World} {g n cap : Nat} {l : List Int} (h : BRow w g n cap l) : ARow w (some ⟨g, 0, none⟩) n l g 0 :=
  ⟨h.len, fun _ => ⟨rfl, h.lt⟩, fun i hi => by rw [Nat.zero_add]; exact h.cell i hi⟩

theorem grown_trans {a w w' : World} {row : Option Nat} (h : a.grownBy w row) (k : w.grownBy w' row) : a.grownBy w' row :=
  ⟨k.os.trans h.os, k.tape.trans h.tape, k.output.trans h.output, Nat.le_trans h.size k.size, fun i hi hr => (k.block i (Nat.lt_of_lt_of_le hi h.size) hr).trans (h.block i hi hr)⟩
theorem grown_alloc {a w : World} {row : Option Nat} (h : a.grownBy w row) (o : Obj) : a.grownBy (w.alloc o) row := grown_trans h (World.grownBy_alloc w o row)
theorem grown_none {a w : World} {row : Option Nat} (h : a.grownBy w none) : a.grownBy w row := ⟨h.os, h.tape, h.output, h.size, fun k hk _ => h.block k hk (by simp)⟩
theorem grown_cell {w w' : World} {row : Option Nat} (hg : w.grownBy w' row) {b o : Nat} (hb : b < w.heap.size) (hne : some b ≠ row) : w'.cell? ⟨b, o, none⟩ = w.cell? ⟨b, o, none⟩ :=
  World.cell?_of_block (w := w) (a := ⟨b, o, none⟩) (hg.block b hb hne)
theorem ARow.kept {w w' : World} {ao : Option Addr} {n : Nat} {l : List Int} {b off : Nat} {row : Option Nat} (h : ARow w ao n l b off) (hg : w.grownBy w' row) (hne : 0 < n → some b ≠ row) : ARow w' ao n l b off :=
  ⟨h.1, fun h0 => ⟨(h.2.1 h0).1, Nat.lt_of_lt_of_le (h.2.1 h0).2 hg.size⟩, fun i hi => (grown_cell hg (h.2.1 (by omega)).2 (hne (by omega))).trans (h.2.2 i hi)⟩
theorem ARow.below {w w' : World} {ao : Option Addr} {n : Nat} {l : List Int} {b off : Nat} {B : Nat} (h : ARow w ao n l b off) (hg : Below B w w') (hne : 0 < n → b < B) : ARow w' ao n l b off :=
  ⟨h.1, fun h0 => ⟨(h.2.1 h0).1, Nat.lt_of_lt_of_le (h.2.1 h0).2 hg.size⟩, fun i hi => (hg.cell (p := ⟨b, off + i, none⟩) (hne (by omega))).trans (h.2.2 i hi)⟩
theorem below_of_grown {w w' : World} {row : Option Nat} (h : w.grownBy w' row) (hr : ∀ g, row = some g → w.heap.size ≤ g) : Below w.heap.size w w' := (Below.refl _ _).grown h (Nat.le_refl _) hr

theorem Try.info5 : (Try.prog.info? 5).map (fun i => (i.zero, i.size, i.bytes)) = some (some (.int .u8 0), 1, 1) := by kernel_rfl

theorem oneCell_int (z : Int) : ∀ u ∈ [Value.int .u8 z], u.oneCell' = true := by
  intro u hu
  simp at hu
  subst hu
  rfl

/-- Behind an append of one byte. -/
theorem brow_snoc {w : World} {g n cap : Nat} {l : List Int} {z : Int} (h : w.ownsRow 0 5 1 (.slice (some ⟨g, 0, none⟩) (n + 1) cap) (n + 1) (bc l ++ [.int .u8 z])) : BRow w g (n + 1) cap (l ++ [z]) := by
  unfold BRow
  rw [bc_append]
  exact h

theorem getD_take_succ (l : List Int) (k : Nat) (h : k < l.length) : l.take (k + 1) = l.take k ++ [l.getD k 0] := by
  rw [List.take_succ_eq_append_getElem h]
  simp [h]

set_option maxHeartbeats 1000000 in
/-- zzAppend, where there is room. -/
theorem append10 (g n cap : Nat) (l : List Int) (ao : Option Addr) (m c : Nat) (r : List Int) (b off : Nat) (w : World) (hB : BRow w g n cap l) (hA : ARow w ao m r b off) (hne : 0 < m → b ≠ g) (hroom : n + m ≤ cap) (hcap : cap ≤ 16777216) :
    Calls Try.prog 10 #[.slice (some ⟨g, 0, none⟩) n cap, .slice ao m c] w fun e w' => e = .returned (.slice (some ⟨g, 0, none⟩) (n + m) cap) ∧ BRow w' g (n + m) cap (l ++ r) ∧ w.grownBy w' (some g) := by
  obtain ⟨i5, hi, hz0, hz1, hz2⟩ := info_parts Try.info5
  have HA : Hid (ARow w ao m r b off) := hA
  have HB : Hid (BRow w g n cap l) := hB
  clear hA hB
  go_enter Try.func10, Try.ntmps10
  go_wp2
  go_loopw [0, 5] (fun v i wr => ∃ k : Nat, k ≤ m ∧ i = .int .i64 k ∧ v = .slice (some ⟨g, 0, none⟩) (n + k) cap ∧ Hid (BRow wr g (n + k) cap (l ++ r.take k)) ∧ w.grownBy wr (some g)) (fun _ i _ => m - (intOf i).toNat)
  case atStart => exact ⟨0, Nat.zero_le _, rfl, rfl, by simpa [Hid] using HB.out, World.grownBy.refl _ _⟩
  case round =>
    obtain ⟨k, hk, rfl, rfl, HO, hgr⟩ := hrel
    by_cases hlt : k < m
    · have hAr := HA.out.kept hgr (fun h0 => by have := hne h0; simpa using this)
      have hcell := hAr.2.2 k hlt
      obtain ⟨hao, _⟩ := hAr.2.1 (by omega)
      subst hao
      have hts := getD_take_succ r k (by rw [HA.out.1]; exact hlt)
      obtain ⟨z, hz⟩ : ∃ z, z = r.getD k 0 := ⟨_, rfl⟩
      rw [← hz] at hcell hts
      have HT : Hid (r.take (k + 1) = r.take k ++ [z]) := hts
      clear hz hts hAr
      go_wp2_with (at_builtin; refine wpList_append_fits _ rfl (.tmp 12) (.tmp 17) 22 rfl 0 5 i5 1 Try.underlying22 hi hz1 g (n + k) cap _ rfl (World.ownsRow.alloc HO.out _) ⟨wr.heap.size, 0, none⟩ 1 1 [.int .u8 z] rfl rfl (cell_one_new _ _ _) (oneCell_int _) (by omega) ?_)
      intro w1 hown1 hgrow1
      have HO1 : Hid (BRow w1 g (n + (k + 1)) cap (l ++ r.take (k + 1))) := by
        show BRow _ _ _ _ _
        rw [HT.out, ← List.append_assoc]
        exact brow_snoc hown1
      have hg1 : w.grownBy w1 (some g) := grown_trans (grown_alloc hgr _) hgrow1
      clear hown1 hgrow1
      go_wp2
      go_roundw
      case rel => exact ⟨k + 1, by omega, by go_num, rfl, HO1, hg1⟩
      case measure => simp [intOf]; omega
    · have hkm : k = m := by omega
      subst hkm
      have HO1 : Hid (BRow wr g (n + k) cap (l ++ r)) := by
        have := HO.out
        rw [List.take_of_length_le (by rw [HA.out.1]; omega)] at this
        exact this
      clear HO
      go_wp2
      go_ret
      exact ⟨rfl, HO1.out, hgr⟩

end Go.Proofs.Qxb6001517a
