/-
  isPolicySpace; strings.ContainsRune at the four spaces: the walks.
-/
import Derived.Test.Qxb6001480aPlain
import Derived.WalkKit
import Derived.WalkSpells
import Derived.WalkLawsBesides
import Derived.Lib.OthersKept
import Derived.BigQuiet
import Derived.Deep.QuietTactic
namespace Go.Proofs.Qxb6001480a
open Go.RowKit

theorem byte_eq (c : UInt8) (n : Nat) (hn : n < 256) : (c == UInt8.ofNat n) = ((c.toNat : Int) == (n : Int)) := by
  rw [Bool.eq_iff_iff, beq_iff_eq, beq_iff_eq]
  constructor
  · rintro rfl
    simp [Nat.mod_eq_of_lt hn]
  · intro h
    apply UInt8.toNat_inj.1
    simp [Nat.mod_eq_of_lt hn]
    omega

theorem psp_eq (c : UInt8) : psp c = ((c.toNat : Int) == 32 || (c.toNat : Int) == 9 || (c.toNat : Int) == 10 || (c.toNat : Int) == 13) := by
  unfold psp
  rw [show (32 : UInt8) = UInt8.ofNat 32 from rfl, show (9 : UInt8) = UInt8.ofNat 9 from rfl, show (10 : UInt8) = UInt8.ofNat 10 from rfl, show (13 : UInt8) = UInt8.ofNat 13 from rfl]
  rw [byte_eq _ _ (by decide), byte_eq _ _ (by decide), byte_eq _ _ (by decide), byte_eq _ _ (by decide)]
  rfl

set_option maxHeartbeats 400000 in
theorem isSpace7 (c : UInt8) (w : World) : Calls Try.prog 7 #[.int .u8 (c.toNat : Int)] w fun e w' => e = .returned (.bool (psp c)) ∧ w' = w := by
  have HE : Hid (psp c = _) := psp_eq c
  obtain ⟨x, hx⟩ : ∃ x : Int, x = (c.toNat : Int) := ⟨_, rfl⟩
  rw [← hx] at HE ⊢
  clear hx
  obtain ⟨r, hr⟩ : ∃ r, r = psp c := ⟨_, rfl⟩
  rw [← hr] at HE ⊢
  clear hr
  go_enter Try.func7, Try.ntmps7
  go_wp2
  all_goals
    go_ret
    exact ⟨by rw [HE.out]; simp_all, rfl⟩

set_option maxHeartbeats 400000 in
theorem idx15 (s : ByteArray) (c : Int) (w : World) :
    Calls Try.prog 15 #[.string s, .int .u8 c] w fun e w' => e = .returned (.int .i64 (Lib.indexByte s.data.toList c.toNat.toUInt8)) ∧ w' = w := by
  go_enter Try.func15, Try.ntmps15
  go_wp2
  rw [run_callFunc_extern Try.func16 (by kernel_rfl) (by kernel_rfl) (by kernel_rfl) (e := Extern.BytealgIndexByte.indexByte) (by kernel_rfl), Lib.run_indexByteString]
  simp only [Result.andThen]
  rw [Oper.upon_value]
  go_wp2
  go_ret
  exact ⟨rfl, rfl⟩

set_option maxHeartbeats 400000 in
theorem idx11 (s : ByteArray) (c : Int) (w : World) :
    Calls Try.prog 11 #[.string s, .int .u8 c] w fun e w' => e = .returned (.int .i64 (Lib.indexByte s.data.toList c.toNat.toUInt8)) ∧ w' = w := by
  go_enter Try.func11, Try.ntmps11
  go_wp2_with (go_at_call 15; refine (idx15 _ _ _).mono ?_; rintro e w' ⟨rfl, rfl⟩)
  go_ret
  exact ⟨rfl, rfl⟩

/-- The four spaces, as the text has them. -/
def four : ByteArray := ⟨#[32, 9, 10, 13]⟩

theorem idx_four (c : UInt8) : decide (0 ≤ Lib.indexByte [32, 9, 10, 13] c) = psp c := by
  unfold psp
  simp only [Lib.indexByte]
  by_cases h1 : c = 32
  · subst h1; rfl
  by_cases h2 : c = 9
  · subst h2; rfl
  by_cases h3 : c = 10
  · subst h3; rfl
  by_cases h4 : c = 13
  · subst h4; rfl
  have g1 : ((32 : UInt8) == c) = false := by simpa using fun e => h1 e.symm
  have g2 : ((9 : UInt8) == c) = false := by simpa using fun e => h2 e.symm
  have g3 : ((10 : UInt8) == c) = false := by simpa using fun e => h3 e.symm
  have g4 : ((13 : UInt8) == c) = false := by simpa using fun e => h4 e.symm
  simp [g1, g2, g3, g4, h1, h2, h3, h4]

theorem byte_back (c : UInt8) : (c.toNat : Int).toNat.toUInt8 = c := by
  rw [Int.toNat_natCast]
  exact UInt8.ofNat_toNat

set_option maxRecDepth 1000000 in
set_option maxHeartbeats 400000 in
/-- strings.ContainsRune at an ASCII rune. -/
theorem cr_ascii (c : UInt8) (hc : c.toNat < 128) (w : World) :
    Calls Try.prog 9 #[.string ⟨#[32, 9, 10, 13]⟩, .int .i32 (c.toNat : Int)] w fun e w' => e = .returned (.bool (psp c)) ∧ w' = w := by
  have HI : Hid (decide (0 ≤ Lib.indexByte [32, 9, 10, 13] c) = psp c) := idx_four c
  have h0 : (0 : Int) ≤ (c.toNat : Int) := by omega
  have h1 : (c.toNat : Int) < 128 := by omega
  have HC : Hid ((c.toNat : Int).toNat.toUInt8 = c) := byte_back c
  obtain ⟨x, hx⟩ : ∃ x : Int, x = (c.toNat : Int) := ⟨_, rfl⟩
  rw [← hx] at h0 h1 HC ⊢
  clear hx hc
  go_enter Try.func9, Try.ntmps9
  go_wp2_with (first | (go_at_call 11; refine (idx11 _ _ _).mono ?_; rintro e w' ⟨rfl, rfl⟩) | go_in)
  all_goals
    go_ret
    exact ⟨by rw [← HI.out, ← HC.out]; rfl, rfl⟩

theorem four_small (pos : Nat) (hp : pos < (ByteArray.mk #[32, 9, 10, 13]).size) : ((ByteArray.mk #[32, 9, 10, 13])[pos]'hp).toNat < 128 := by
  have hp' : pos < 4 := hp
  have : pos = 0 ∨ pos = 1 ∨ pos = 2 ∨ pos = 3 := by omega
  rcases this with rfl | rfl | rfl | rfl
  · show (32 : UInt8).toNat < 128; decide
  · show (9 : UInt8).toNat < 128; decide
  · show (10 : UInt8).toNat < 128; decide
  · show (13 : UInt8).toNat < 128; decide

set_option maxRecDepth 1000000 in
set_option maxHeartbeats 1000000 in
/-- strings.IndexRune at U+FFFD. -/
theorem ir_err (w : World) :
    Calls Try.prog 10 #[.string ⟨#[32, 9, 10, 13]⟩, .int .i32 65533] w fun e w' => e = .returned (.int .i64 (-1)) ∧ Below w.heap.size w w' := by
  go_enter Try.func10, Try.ntmps10
  go_wp2
  go_loopw [5, 6] (fun _ _ wr => ∃ pos : Nat, pos ≤ 4 ∧ wr = w.iter ⟨#[32, 9, 10, 13]⟩ pos) (fun _ _ wr => 4 - wr.iterPos w.heap.size)
  case atStart => exact ⟨0, Nat.zero_le _, rfl⟩
  case round =>
    obtain ⟨pos, hpos, rfl⟩ := hrel
    by_cases hp : pos < 4
    · have hnx : ∀ ty, (Instr.next (.pointer (some ⟨w.heap.size, 0, none⟩)) true ty).run Try.prog (w.iter ⟨#[32, 9, 10, 13]⟩ pos) = .ok (.tuple #[.bool true, .int .i64 pos, .int .i32 ((ByteArray.mk #[32, 9, 10, 13])[pos]'hp).toNat]) (w.iter ⟨#[32, 9, 10, 13]⟩ (pos + 1)) := fun ty => run_next_ascii w ⟨#[32, 9, 10, 13]⟩ pos ty hp (four_small pos hp)
      have hsm := four_small pos hp
      obtain ⟨x, hx⟩ : ∃ x : Nat, x = ((ByteArray.mk #[32, 9, 10, 13])[pos]'hp).toNat := ⟨_, rfl⟩
      rw [← hx] at hnx hsm
      have hne : ((x : Int) == 65533) = false := by rw [beq_eq_false_iff_ne]; omega
      clear hx
      go_wp2
      go_roundw
      case rel => exact ⟨pos + 1, by omega, rfl⟩
      case measure => simp; omega
    · have hnx : ∀ ty, (Instr.next (.pointer (some ⟨w.heap.size, 0, none⟩)) true ty).run Try.prog (w.iter ⟨#[32, 9, 10, 13]⟩ pos) = .ok (.tuple #[.bool false]) (w.iter ⟨#[32, 9, 10, 13]⟩ pos) := fun ty => run_next_end w ⟨#[32, 9, 10, 13]⟩ pos ty hp
      go_wp2
      go_ret
      exact ⟨rfl, (Below.refl _ _).alloc (Nat.le_refl _) _⟩

/-- strings.IndexByte where the byte is beyond ASCII and the string is a piece of the four spaces. -/
theorem idx11_none (a b : Nat) (c : UInt8) (w : World) (hc : 128 ≤ c.toNat) :
    Calls Try.prog 11 #[.string ((ByteArray.mk #[32, 9, 10, 13]).extract a b), .int .u8 (c.toNat : Int)] w fun e w' => e = .returned (.int .i64 (-1)) ∧ w' = w := by
  refine (idx11 _ _ w).mono ?_
  rintro e w' ⟨rfl, rfl⟩
  refine ⟨?_, rfl⟩
  rw [byte_back, ← Lib.firstIdx_eq, firstIdx_ascii _ _ _ _ _ hc]
  intro x hx
  have : x = 32 ∨ x = 9 ∨ x = 10 ∨ x = 13 := by simpa using hx
  rcases this with rfl | rfl | rfl | rfl <;> decide

theorem idx11_empty (c : Int) (w : World) :
    Calls Try.prog 11 #[.string ByteArray.empty, .int .u8 c] w fun e w' => e = .returned (.int .i64 (-1)) ∧ w' = w := by
  refine (idx11 _ _ w).mono ?_
  rintro e w' ⟨rfl, rfl⟩
  exact ⟨rfl, rfl⟩

/-- utf8.ValidRune at a valid rune. -/
theorem valid12 (r : Int) (w : World) (hv : Utf8.valid r = true) : Calls Try.prog 12 #[.int .i32 r] w fun e w' => e = .returned (.bool true) ∧ w' = w := by
  rw [validRune_eq] at hv
  unfold validRune at hv
  have hv3 := of_decide_eq_true hv
  clear hv
  rcases hv3 with ⟨a, b⟩ | ⟨a, b⟩
  · go_enter Try.func12, Try.ntmps12
    go_wp2
    go_ret
    exact ⟨rfl, rfl⟩
  · have c : ¬ r < 55296 := by omega
    go_enter Try.func12, Try.ntmps12
    go_wp2
    go_ret
    exact ⟨rfl, rfl⟩

set_option maxRecDepth 1000000 in
set_option maxHeartbeats 1000000 in
/-- strings.IndexRune at a valid rune beyond ASCII. -/
theorem ir_val (r : Int) (w : World) (h1 : 128 ≤ r) (h2 : r ≠ 65533) (hv : Utf8.valid r = true) :
    Calls Try.prog 10 #[.string ⟨#[32, 9, 10, 13]⟩, .int .i32 r] w fun e w' => e = .returned (.int .i64 (-1)) ∧ ∃ q, w' = w.drewN q := by
  have hb1 : (r == 65533) = false := by simpa using h2
  have h3 : ¬ r < 128 := by omega
  obtain ⟨hr2, hr4, hlast⟩ := encode_facts r hv h1
  have HV : Hid (Utf8.valid r = true) := hv
  clear hv
  obtain ⟨R, hR⟩ : ∃ R, R = Utf8.encode r := ⟨_, rfl⟩
  have henc : ∀ wx, (convert 21 9 (.int .i32 r)).run Try.prog wx = .ok (.string R) wx := fun wx => by rw [hR]; exact run_convert_int_string wx 21 9 .i32 r (by rw [Try.underlying21]; rfl) Try.underlying9
  rw [← hR] at hr2 hr4 hlast
  clear hR
  have hsz : R.size = 2 ∨ R.size = 3 ∨ R.size = 4 := by omega
  clear hr2 hr4
  rcases hsz with hs | hs | hs
  · have g1 : (1 : Int) < (R.size : Int) := by omega
    have hl1 : 128 ≤ (R[1]'(by omega)).toNat := by
      have := hlast (by omega)
      simpa [hs] using this
    have hf : ((ByteArray.mk #[32, 9, 10, 13])[1]'(by decide)).toNat = 9 := rfl
    have hne : ((((ByteArray.mk #[32, 9, 10, 13])[1]'(by decide)).toNat : Int) != ((R[1]'(by omega)).toNat : Int)) = true := by rw [bne_iff_ne, hf]; omega
    clear hf
    clear hlast
    go_enter Try.func10, Try.ntmps10
    go_wp2_with (first | (go_at_call 12; refine (valid12 _ _ HV.out).mono ?_; rintro e w' ⟨rfl, rfl⟩))
    go_step3
    go_wp2_with fail
    refine wp_loop_rounds 1 ?_; rw [rounds_succ]
    go_wp2_with fail
    go_step3
    go_wp2_with fail
    go_quiet (fail)
    go_wp2_with fail
    go_quiet ((go_at_call 11; refine (idx11_none _ _ _ _ hl1).mono ?_; rintro e w2 ⟨rfl, rfl⟩; exact ⟨rfl, _, rfl⟩))
    go_wp2_with fail
    rw [Exit.noGoto_ret]
    go_wp2_with fail
    rw [Exit.noGoto_ret]
    go_ret
    exact ⟨rfl, _, rfl⟩
  · have g1 : (2 : Int) < (R.size : Int) := by omega
    have hl1 : 128 ≤ (R[2]'(by omega)).toNat := by
      have := hlast (by omega)
      simpa [hs] using this
    have hf : ((ByteArray.mk #[32, 9, 10, 13])[2]'(by decide)).toNat = 10 := rfl
    have hne : ((((ByteArray.mk #[32, 9, 10, 13])[2]'(by decide)).toNat : Int) != ((R[2]'(by omega)).toNat : Int)) = true := by rw [bne_iff_ne, hf]; omega
    clear hf
    clear hlast
    go_enter Try.func10, Try.ntmps10
    go_wp2_with (first | (go_at_call 12; refine (valid12 _ _ HV.out).mono ?_; rintro e w' ⟨rfl, rfl⟩))
    go_step3
    go_wp2_with fail
    refine wp_loop_rounds 1 ?_; rw [rounds_succ]
    go_wp2_with fail
    go_step3
    go_wp2_with fail
    go_quiet (fail)
    go_wp2_with fail
    go_quiet ((go_at_call 11; refine (idx11_none _ _ _ _ hl1).mono ?_; rintro e w2 ⟨rfl, rfl⟩; exact ⟨rfl, _, rfl⟩))
    go_wp2_with fail
    rw [Exit.noGoto_ret]
    go_wp2_with fail
    rw [Exit.noGoto_ret]
    go_ret
    exact ⟨rfl, _, rfl⟩
  · have g1 : (3 : Int) < (R.size : Int) := by omega
    have hl1 : 128 ≤ (R[3]'(by omega)).toNat := by
      have := hlast (by omega)
      simpa [hs] using this
    have hf : ((ByteArray.mk #[32, 9, 10, 13])[3]'(by decide)).toNat = 13 := rfl
    have hne : ((((ByteArray.mk #[32, 9, 10, 13])[3]'(by decide)).toNat : Int) != ((R[3]'(by omega)).toNat : Int)) = true := by rw [bne_iff_ne, hf]; omega
    clear hf
    clear hlast
    go_enter Try.func10, Try.ntmps10
    go_wp2_with (first | (go_at_call 12; refine (valid12 _ _ HV.out).mono ?_; rintro e w' ⟨rfl, rfl⟩))
    go_step3
    go_wp2_with fail
    refine wp_loop_rounds 1 ?_; rw [rounds_succ]
    go_wp2_with fail
    go_step3
    go_wp2_with fail
    go_quiet (fail)
    go_wp2_with fail
    go_quiet ((go_at_call 11; refine (idx11_empty _ _).mono ?_; rintro e w2 ⟨rfl, rfl⟩; exact ⟨rfl, _, rfl⟩))
    go_wp2_with fail
    rw [Exit.noGoto_ret]
    go_wp2_with fail
    rw [Exit.noGoto_ret]
    go_ret
    exact ⟨rfl, _, rfl⟩

end Go.Proofs.Qxb6001480a
