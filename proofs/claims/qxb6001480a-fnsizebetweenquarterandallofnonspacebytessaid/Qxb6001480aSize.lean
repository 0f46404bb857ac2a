/-
  Size; the law FnSizeBetweenQuarterAndAllOfNonSpaceBytes: the walks.
-/
import Derived.Test.Qxb6001480aRune
namespace Go.Proofs.Qxb6001480a
open Go.RowKit

/-- It returns a natural number of which p holds. -/
def RetNat (p : Nat → Prop) (e : Ending) : Prop := ∃ j : Nat, e = .returned (.int .i64 (j : Int)) ∧ p j

set_option maxHeartbeats 400000 in
/-- strings.ContainsRune at a rune beyond ASCII. -/
theorem cr_high (r : Int) (w : World) (h1 : 128 ≤ r) (hv : r = 65533 ∨ Utf8.valid r = true) :
    Calls Try.prog 9 #[.string ⟨#[32, 9, 10, 13]⟩, .int .i32 r] w fun e w' => e = .returned (.bool false) ∧ Below w.heap.size w w' := by
  have HC : Hid (Calls Try.prog 10 #[.string ⟨#[32, 9, 10, 13]⟩, .int .i32 r] w fun e w' => e = .returned (.int .i64 (-1)) ∧ Below w.heap.size w w') := by
    by_cases h : r = 65533
    · subst h
      exact ir_err w
    · have hv' : Utf8.valid r = true := by
        rcases hv with h' | h'
        · exact absurd h' h
        · exact h'
      refine (ir_val r w h1 h hv').mono ?_
      rintro e w' ⟨rfl, q, rfl⟩
      exact ⟨rfl, below_drewN (Below.refl _ _) q⟩
  clear hv h1
  go_enter Try.func9, Try.ntmps9
  go_wp2_with (go_at_call 10; refine HC.out.mono ?_; rintro e w' ⟨rfl, hb⟩)
  go_ret
  exact ⟨rfl, hb⟩

theorem drop_cons (t : ByteArray) (k : Nat) (h : k < t.size) : t.data.toList.drop k = t[k] :: t.data.toList.drop (k + 1) := by
  rw [List.drop_eq_getElem_cons (by exact h)]
  rfl
theorem take_snoc (s : ByteArray) (k : Nat) (h : k < s.size) : s.data.toList.take (k + 1) = s.data.toList.take k ++ [s[k]] := by
  rw [List.take_succ_eq_append_getElem (by exact h)]
  rfl

theorem high_piece (s : ByteArray) (pos d : Nat) (h : pos + d ≤ s.size) (hg : ∀ j, j < d → 128 ≤ (s.get! (pos + j)).toNat) :
    ((s.data.toList.drop pos).take d).length = d ∧ ∀ c ∈ (s.data.toList.drop pos).take d, 128 ≤ c.toNat := by
  have hl : s.data.toList.length = s.size := rfl
  refine ⟨by rw [List.length_take, List.length_drop]; omega, fun c hc => ?_⟩
  obtain ⟨j, hj, rfl⟩ := List.getElem_of_mem hc
  rw [List.length_take, List.length_drop] at hj
  have := hg j (by omega)
  rw [get_bang s (pos + j) (by omega)] at this
  rw [List.getElem_take, List.getElem_drop]
  exact this

set_option maxHeartbeats 2000000 in
theorem size6 (s : ByteArray) (w : World) (hs : s.size ≤ 1048576) :
    Calls Try.prog 6 #[.string s] w fun e w' => Below w.heap.size w w' ∧ RetNat (fun C => Goes C s.data.toList) e := by
  go_enter Try.func6, Try.ntmps6
  go_wp2
  go_loopw [3, 5] (fun n _ wr => ∃ (pos C : Nat), pos ≤ s.size ∧ n = .int .i64 C ∧ C ≤ pos ∧ wr.heap[w.heap.size]? = some (.stringIter s pos) ∧ Hid (Goes C (s.data.toList.take pos)) ∧ Below w.heap.size w wr) (fun _ _ wr => s.size - wr.iterPos w.heap.size)
  case atStart => exact ⟨0, 0, Nat.zero_le _, rfl, Nat.le_refl _, World.iter_heap w s 0, goes_nil, (Below.refl _ _).alloc (Nat.le_refl _) _⟩
  case round =>
    obtain ⟨pos, C, hpos, rfl, hC, hit, HG, hbel⟩ := hrel
    have HIP : Hid (wr.iterPos w.heap.size = pos) := iterPos_of hit
    have hklt : w.heap.size < wr.heap.size := (Array.getElem?_eq_some_iff.1 hit).1
    by_cases hp : pos < s.size
    · by_cases ha : s[pos].toNat < 128
      · have hnx : ∀ ty, (Instr.next (.pointer (some ⟨w.heap.size, 0, none⟩)) true ty).run Try.prog wr = .ok (.tuple #[.bool true, .int .i64 pos, .int .i32 (s[pos]).toNat]) (wr.iterAt w.heap.size s (pos + 1)) := fun ty => Lib.run_next_ascii_at wr w.heap.size s pos ty hit hp ha
        have hit1 := Lib.iterAt_heap wr w.heap.size s pos (pos + 1) hit
        have hb1 := Lib.below_iterAt hbel (Nat.le_refl _) s (pos + 1)
        have hts := take_snoc s pos hp
        obtain ⟨W1, hW1⟩ : ∃ W1, W1 = wr.iterAt w.heap.size s (pos + 1) := ⟨_, rfl⟩
        rw [← hW1] at hnx hit1 hb1
        clear hW1 hit
        cases hsp : psp s[pos] with
        | true =>
          have HG1 : Hid (Goes C (s.data.toList.take (pos + 1))) := by show Goes _ _; rw [hts]; exact goes_space HG.out hsp
          clear hts HG
          go_wp2_with (go_at_call 9; refine (cr_ascii _ ha _).mono ?_; rintro e w' ⟨rfl, rfl⟩)
          go_roundw
          case rel => exact ⟨pos + 1, C, by omega, rfl, by omega, hit1, HG1, hb1⟩
          case measure => rw [iterPos_of hit1, HIP.out]; omega
        | false =>
          have HG1 : Hid (Goes (C + 1) (s.data.toList.take (pos + 1))) := by show Goes _ _; rw [hts]; exact goes_one HG.out hsp
          clear hts HG
          go_wp2_with (go_at_call 9; refine (cr_ascii _ ha _).mono ?_; rintro e w' ⟨rfl, rfl⟩)
          go_roundw
          case rel => exact ⟨pos + 1, C + 1, by omega, by go_num, by omega, hit1, HG1, hb1⟩
          case measure => rw [iterPos_of hit1, HIP.out]; omega
      · obtain ⟨d1, d2, d3, d4, d5⟩ := decode_facts s pos hp (by omega)
        have d6 := (decode_high s pos hp (by omega)).1
        have hnx : ∀ ty, (Instr.next (.pointer (some ⟨w.heap.size, 0, none⟩)) true ty).run Try.prog wr = .ok (.tuple #[.bool true, .int .i64 pos, .int .i32 (Utf8.decode s pos).1]) (wr.iterAt w.heap.size s (pos + (Utf8.decode s pos).2)) := fun ty => Lib.run_next_any_at wr w.heap.size s pos ty hit hp
        obtain ⟨D, hD⟩ : ∃ D, D = (Utf8.decode s pos).2 := ⟨_, rfl⟩
        obtain ⟨r, hr⟩ : ∃ r, r = (Utf8.decode s pos).1 := ⟨_, rfl⟩
        rw [← hD] at hnx d1 d2 d3 d4
        rw [← hr] at hnx d5 d6
        clear hD hr
        obtain ⟨m1, m2⟩ := high_piece s pos D d3 d4
        have HG1 : Hid (Goes (C + 1) (s.data.toList.take (pos + D))) := by
          show Goes _ _
          rw [take_more]
          exact goes_high HG.out (by omega) (by omega) m2
        have hit1 := Lib.iterAt_heap wr w.heap.size s pos (pos + D) hit
        have hb1 := Lib.below_iterAt hbel (Nat.le_refl _) s (pos + D)
        have hsz1 : w.heap.size < (wr.iterAt w.heap.size s (pos + D)).heap.size := by rw [Lib.iterAt_size]; exact hklt
        obtain ⟨W1, hW1⟩ : ∃ W1, W1 = wr.iterAt w.heap.size s (pos + D) := ⟨_, rfl⟩
        rw [← hW1] at hnx hit1 hb1 hsz1
        have hr1 : (128 : Int) ≤ (r : Int) := by omega
        have HV : Hid ((r : Int) = 65533 ∨ Utf8.valid (r : Int) = true) := by
          rcases d5 with h | h
          · exact .inl (by omega)
          · exact .inr h
        clear hW1 hit m1 m2 d4 d5 HG
        go_wp2_with (go_at_call 9; refine (cr_high _ _ hr1 HV.out).mono ?_; rintro e w2 ⟨rfl, hb2⟩)
        have hit2 : w2.heap[w.heap.size]? = some (.stringIter s (pos + D)) := (hb2.block _ hsz1).trans hit1
        have hb3 : Below w.heap.size w w2 := hb1.trans (hb2.mono (by omega))
        go_roundw
        case rel => exact ⟨pos + D, C + 1, by omega, by go_num, by omega, hit2, HG1, hb3⟩
        case measure => rw [iterPos_of hit2, HIP.out]; omega
    · have hnx : ∀ ty, (Instr.next (.pointer (some ⟨w.heap.size, 0, none⟩)) true ty).run Try.prog wr = .ok (.tuple #[.bool false]) wr := fun ty => Lib.run_next_end_at wr w.heap.size s pos ty hit hp
      have HG1 : Hid (Goes C s.data.toList) := by
        have := HG.out
        rw [List.take_of_length_le (by show s.size ≤ pos; omega)] at this
        exact this
      clear HG hit
      go_wp2
      go_ret
      exact ⟨hbel, C, rfl, HG1.out⟩

end Go.Proofs.Qxb6001480a
