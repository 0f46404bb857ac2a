/-
  skipSpace, skipValue at a bare token or a string: the walks.
-/
import Derived.Test.Qxb6001517aWs
namespace Go.Proofs.Qxb6001517a
open Go.RowKit

theorem idx_blank_fin : ∀ k : Fin 256, decide (0 ≤ Lib.indexByte [32, 9, 10, 13] k.val.toUInt8) = isB (k.val : Int) := by decide +kernel
theorem idx_stop_fin : ∀ k : Fin 256, decide (Lib.indexByte [44, 93, 125, 32, 9, 10, 13] k.val.toUInt8 < 0) = !isStop (k.val : Int) := by decide +kernel
theorem idx_blank (c : Int) (h0 : 0 ≤ c) (h1 : c ≤ 255) : decide (0 ≤ Lib.indexByte [32, 9, 10, 13] c.toNat.toUInt8) = isB c := by
  have h := idx_blank_fin ⟨c.toNat, by omega⟩
  rw [h]
  congr 1
  show ((c.toNat : Nat) : Int) = c
  omega
theorem idx_stop (c : Int) (h0 : 0 ≤ c) (h1 : c ≤ 255) : decide (Lib.indexByte [44, 93, 125, 32, 9, 10, 13] c.toNat.toUInt8 < 0) = !isStop c := by
  have h := idx_stop_fin ⟨c.toNat, by omega⟩
  rw [h]
  congr 2
  show ((c.toNat : Nat) : Int) = c
  omega

def U8 (c : Int) : Prop := 0 ≤ c ∧ c ≤ 255

set_option maxHeartbeats 2000000 in
/-- skipSpace: m blanks, then a byte that is none. -/
theorem skipSpace32 (hs g cap : Nat) (l : List Int) (p m : Nat) (w : World) (hS : Scan w hs g cap l p) (hN : l.length ≤ 16777216) (hm : p + m < l.length)
    (hu : ∀ i, p ≤ i → i ≤ p + m → U8 (l.getD i 0)) (hb : ∀ i, p ≤ i → i < p + m → isB (l.getD i 0) = true) (he : isB (l.getD (p + m) 0) = false) :
    Calls Try.prog 32 #[.pointer (some ⟨hs, 0, none⟩)] w fun e w' => e = .returned (.tuple #[]) ∧ Scan w' hs g cap l (p + m) ∧ w.grownBy w' (some hs) := by
  have HS : Hid (Scan w hs g cap l p) := hS
  have HU : Hid (∀ i, p ≤ i → i ≤ p + m → U8 (l.getD i 0)) := hu
  have HB : Hid (∀ i, p ≤ i → i < p + m → isB (l.getD i 0) = true) := hb
  have HE : Hid (isB (l.getD (p + m) 0) = false) := he
  clear hS hu hb he
  go_enter Try.func32, Try.ntmps32
  go_wp2
  go_loopg [] m (fun gk wr => ∃ k : Nat, k + gk = m ∧ Hid (Scan wr hs g cap l (p + k)) ∧ w.grownBy wr (some hs))
  case atStart => exact ⟨0, by omega, HS, World.grownBy.refl _ _⟩
  case round =>
    obtain ⟨k, hk, HR, hgr⟩ := hrel
    obtain ⟨P, hP⟩ : ∃ P, P = p + k := ⟨_, rfl⟩
    rw [← hP] at HR
    have hPl : P < l.length := by omega
    obtain ⟨r0, r1, r2, r3, r4⟩ := HR.out
    have rc := r3 P hPl
    have ci : (P : Int) < (l.length : Int) := by omega
    obtain ⟨u0, u1⟩ := HU.out P (by omega) (by omega)
    have hi := idx_blank _ u0 u1
    have HC : Hid (∀ wx, Calls Try.prog 31 #[.string ⟨#[32, 9, 10, 13]⟩, .int .u8 (l.getD P 0)] wx fun e w' => e = .returned (.int .i64 (Lib.indexByte [32, 9, 10, 13] (l.getD P 0).toNat.toUInt8)) ∧ w' = wx) := fun wx => idx31 _ _ wx
    obtain ⟨z, hz⟩ : ∃ z, z = Lib.indexByte [32, 9, 10, 13] (l.getD P 0).toNat.toUInt8 := ⟨_, rfl⟩
    rw [← hz] at hi HC
    obtain ⟨c, hc⟩ : ∃ c, c = l.getD P 0 := ⟨_, rfl⟩
    have HCC : Hid (c = l.getD P 0) := hc
    rw [← hc] at rc hi HC
    have HP : Hid (P = p + k) := hP
    clear hc hz r3 r4 u0 u1 hP
    by_cases hkm : k < m
    · rw [show isB c = true by rw [HCC.out]; have := HP.out; exact HB.out P (by omega) (by omega)] at hi
      go_wp2_with fail
      go_quiet ((go_at_call 31; refine (HC.out _).mono ?_; rintro x9 w9 ⟨rfl, rfl⟩; exact ⟨rfl, _, rfl⟩))
      go_wp2_with fail
      go_roundg (m - (k + 1))
      case measure => omega
      case rel => exact ⟨k + 1, by omega, (HR.out.drewN _).setI (p + (k + 1)) (by have := HP.out; omega), grown_trans hgr (grown_trans (grown_drewN _ _ _) (grown_set _ _ _))⟩
    · have hkm2 : k = m := by omega
      rw [show isB c = false by rw [HCC.out, HP.out, hkm2]; exact HE.out] at hi
      go_wp2_with fail
      go_quiet ((go_at_call 31; refine (HC.out _).mono ?_; rintro x9 w9 ⟨rfl, rfl⟩; exact ⟨rfl, _, rfl⟩))
      go_wp2_with fail
      go_end0
      exact ⟨rfl, by rw [← hkm2, ← HP.out]; exact HR.out.drewN _, grown_trans hgr (grown_drewN _ _ _)⟩

set_option maxHeartbeats 2000000 in
/-- skipValue at a bare token of m bytes. -/
theorem skipBare25 (hs g cap : Nat) (l : List Int) (p m : Nat) (w : World) (hS : Scan w hs g cap l p) (hN : l.length ≤ 16777216) (hm : p + m < l.length)
    (hu : ∀ i, p ≤ i → i ≤ p + m → U8 (l.getD i 0)) (hb : ∀ i, p ≤ i → i < p + m → isStop (l.getD i 0) = false) (he : isStop (l.getD (p + m) 0) = true)
    (q1 : (l.getD p 0 == 34) = false) (q2 : (l.getD p 0 == 123) = false) (q3 : (l.getD p 0 == 91) = false) :
    Calls Try.prog 25 #[.pointer (some ⟨hs, 0, none⟩)] w fun e w' => e = .returned (.tuple #[]) ∧ Scan w' hs g cap l (p + m) ∧ w.grownBy w' (some hs) := by
  have HS : Hid (Scan w hs g cap l p) := hS
  have HU : Hid (∀ i, p ≤ i → i ≤ p + m → U8 (l.getD i 0)) := hu
  have HB : Hid (∀ i, p ≤ i → i < p + m → isStop (l.getD i 0) = false) := hb
  have HE : Hid (isStop (l.getD (p + m) 0) = true) := he
  have HPK := peek30 hs g cap l p w hS hN (by omega)
  obtain ⟨c0, hc0⟩ : ∃ c0, c0 = l.getD p 0 := ⟨_, rfl⟩
  rw [← hc0] at HPK q1 q2 q3
  have HPK2 : Hid (Calls Try.prog 30 #[.pointer (some ⟨hs, 0, none⟩)] w fun e w' => e = .returned (.int .u8 c0) ∧ ∃ q, w' = w.drewN q) := HPK
  clear hS hu hb he HPK hc0
  go_enter Try.func25, Try.ntmps25
  go_wp2_with (go_at_call 30; refine HPK2.out.mono ?_; rintro x9 w9 ⟨rfl, q9, rfl⟩)
  go_loopg [] m (fun gk wr => ∃ k : Nat, k + gk = m ∧ Hid (Scan wr hs g cap l (p + k)) ∧ w.grownBy wr (some hs))
  case atStart => exact ⟨0, by omega, HS.out.drewN _, grown_drewN _ _ _⟩
  case round =>
    obtain ⟨k, hk, HR, hgr⟩ := hrel
    obtain ⟨P, hP⟩ : ∃ P, P = p + k := ⟨_, rfl⟩
    rw [← hP] at HR
    have hPl : P < l.length := by omega
    obtain ⟨r0, r1, r2, r3, r4⟩ := HR.out
    have rc := r3 P hPl
    have ci : (P : Int) < (l.length : Int) := by omega
    obtain ⟨u0, u1⟩ := HU.out P (by omega) (by omega)
    have hi := idx_stop _ u0 u1
    have HC : Hid (∀ wx, Calls Try.prog 31 #[.string ⟨#[44, 93, 125, 32, 9, 10, 13]⟩, .int .u8 (l.getD P 0)] wx fun e w' => e = .returned (.int .i64 (Lib.indexByte [44, 93, 125, 32, 9, 10, 13] (l.getD P 0).toNat.toUInt8)) ∧ w' = wx) := fun wx => idx31 _ _ wx
    obtain ⟨z, hz⟩ : ∃ z, z = Lib.indexByte [44, 93, 125, 32, 9, 10, 13] (l.getD P 0).toNat.toUInt8 := ⟨_, rfl⟩
    rw [← hz] at hi HC
    obtain ⟨c, hc⟩ : ∃ c, c = l.getD P 0 := ⟨_, rfl⟩
    have HCC : Hid (c = l.getD P 0) := hc
    rw [← hc] at rc hi HC
    have HP : Hid (P = p + k) := hP
    clear hc hz r3 r4 u0 u1 hP
    by_cases hkm : k < m
    · rw [show isStop c = false by rw [HCC.out]; have := HP.out; exact HB.out P (by omega) (by omega)] at hi
      have hi2 : decide (z < 0) = true := hi
      clear hi
      go_wp2_with fail
      go_quiet ((go_at_call 31; refine (HC.out _).mono ?_; rintro x9 w9 ⟨rfl, rfl⟩; exact ⟨rfl, _, rfl⟩))
      go_wp2_with fail
      go_roundg (m - (k + 1))
      case measure => omega
      case rel => exact ⟨k + 1, by omega, (HR.out.drewN _).setI (p + (k + 1)) (by have := HP.out; omega), grown_trans hgr (grown_trans (grown_drewN _ _ _) (grown_set _ _ _))⟩
    · have hkm2 : k = m := by omega
      rw [show isStop c = true by rw [HCC.out, HP.out, hkm2]; exact HE.out] at hi
      have hi2 : decide (z < 0) = false := hi
      clear hi
      go_wp2_with fail
      go_quiet ((go_at_call 31; refine (HC.out _).mono ?_; rintro x9 w9 ⟨rfl, rfl⟩; exact ⟨rfl, _, rfl⟩))
      go_wp2_with fail
      refine bodyPost_ret (results_none rfl _ _ _) rfl ?_
      exact ⟨rfl, by rw [← hkm2, ← HP.out]; exact HR.out.drewN _, grown_trans hgr (grown_drewN _ _ _)⟩

set_option maxHeartbeats 2000000 in
/-- skipValue at a string. -/
theorem skipStr25 (hs g cap : Nat) (l : List Int) (p m : Nat) (w : World) (hS : Scan w hs g cap l p) (hN : l.length ≤ 16777216) (hp : p < l.length) (h34 : l.getD p 0 = 34) (he : strEnd (l.drop (p + 1)) = some m) :
    Calls Try.prog 25 #[.pointer (some ⟨hs, 0, none⟩)] w fun e w' => e = .returned (.tuple #[]) ∧ Scan w' hs g cap l (p + 1 + m) ∧ w.grownBy w' (some hs) := by
  have HS : Hid (Scan w hs g cap l p) := hS
  have HE : Hid (strEnd (l.drop (p + 1)) = some m) := he
  have HPK := peek30 hs g cap l p w hS hN hp
  rw [h34] at HPK
  have HPK2 : Hid (Calls Try.prog 30 #[.pointer (some ⟨hs, 0, none⟩)] w fun e w' => e = .returned (.int .u8 34) ∧ ∃ q, w' = w.drewN q) := HPK
  clear hS he HPK h34
  go_enter Try.func25, Try.ntmps25
  go_wp2_with (go_at_call 30; refine HPK2.out.mono ?_; rintro x9 w9 ⟨rfl, q9, rfl⟩)
  refine (skipString22 hs g cap l p m _ (HS.out.drewN _) hN hp HE.out).mono ?_
  rintro x8 w8 ⟨rfl, hsc, hgr8⟩
  have HSC : Hid (Scan w8 hs g cap l (p + 1 + m)) := hsc
  have hgr2 : w.grownBy w8 (some hs) := grown_trans (grown_drewN _ _ _) hgr8
  clear hsc hgr8
  go_wp2_with fail
  refine bodyPost_ret (results_none rfl _ _ _) rfl ?_
  exact ⟨rfl, HSC.out, hgr2⟩

end Go.Proofs.Qxb6001517a
