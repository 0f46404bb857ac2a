/-
  skipString, peek: the walks over a scan.
-/
import Derived.Test.Qxb6001517aKit
import Derived.BigQuiet
import Derived.Deep.QuietTactic
import Derived.Deep.LoopGhost
namespace Go.Proofs.Qxb6001517a
open Go.RowKit

/-- How many bytes a string's text has left, its closing quote counted in. -/
def strEnd : List Int → Option Nat
  | [] => none
  | [c] => if c = 34 then some 1 else none
  | c :: d :: r => if c = 34 then some 1 else if c = 92 then (strEnd r).map (· + 2) else (strEnd (d :: r)).map (· + 1)

theorem strEnd_quote (r : List Int) : strEnd (34 :: r) = some 1 := by
  cases r <;> simp [strEnd]
theorem strEnd_esc {d : Int} {r : List Int} {m : Nat} (h : strEnd (92 :: d :: r) = some m) : ∃ k, strEnd r = some k ∧ m = k + 2 := by
  simp only [strEnd] at h
  rw [if_neg (by decide), if_pos trivial, Option.map_eq_some_iff] at h
  obtain ⟨k, hk, rfl⟩ := h
  exact ⟨k, hk, rfl⟩
theorem strEnd_esc_one (m : Nat) : strEnd [92] ≠ some m := by simp [strEnd]
theorem strEnd_other {c : Int} {r : List Int} {m : Nat} (h : strEnd (c :: r) = some m) (h1 : c ≠ 34) (h2 : c ≠ 92) : ∃ k, strEnd r = some k ∧ m = k + 1 := by
  cases r with
  | nil => simp [strEnd, h1] at h
  | cons d r =>
    simp only [strEnd] at h
    rw [if_neg h1, if_neg h2, Option.map_eq_some_iff] at h
    obtain ⟨k, hk, rfl⟩ := h
    exact ⟨k, hk, rfl⟩
theorem strEnd_pos {l : List Int} {m : Nat} (h : strEnd l = some m) : 1 ≤ m ∧ m ≤ l.length := by
  match l, h with
  | [], h => simp [strEnd] at h
  | [c], h =>
    simp only [strEnd] at h
    split at h
    · injection h with h; simp; omega
    · cases h
  | c :: d :: r, h =>
    simp only [strEnd] at h
    split at h
    · injection h with h; simp; omega
    · split at h
      · obtain ⟨k, hk, rfl⟩ := Option.map_eq_some_iff.1 h
        have := strEnd_pos hk
        simp; omega
      · obtain ⟨k, hk, rfl⟩ := Option.map_eq_some_iff.1 h
        have := strEnd_pos hk
        simp at this ⊢; omega

/-- A scan over l that stands at 'at'. -/
def Scan (w : World) (hs g cap : Nat) (l : List Int) (p : Nat) : Prop :=
  w.cell? ⟨hs, 0, none⟩ = some (.slice (some ⟨g, 0, none⟩) l.length cap) ∧ w.cell? ⟨hs, 1, none⟩ = some (.int .i64 (p : Int)) ∧ w.frozen? ⟨hs, 1, none⟩ = false ∧ (∀ i, i < l.length → w.cell? ⟨g, i, none⟩ = some (.int .u8 (l.getD i 0))) ∧ g ≠ hs

theorem Scan.drewN {w : World} {hs g cap : Nat} {l : List Int} {p : Nat} (h : Scan w hs g cap l p) (q : Nat) : Scan (w.drewN q) hs g cap l p := h

theorem Scan.set {w : World} {hs g cap : Nat} {l : List Int} {p : Nat} (h : Scan w hs g cap l p) (p' : Nat) : Scan (w.setCell ⟨hs, 1, none⟩ (.int .i64 (p' : Int))) hs g cap l p' := by
  obtain ⟨h1, h2, h3, h4, h5⟩ := h
  refine ⟨?_, ?_, ?_, fun i hi => ?_, h5⟩
  · rw [World.cell?_setCell_other _ _ _ _ (by simp)]; exact h1
  · exact World.cell?_setCell_same' w ⟨hs, 1, none⟩ _ (by rw [h2]; rfl)
  · rw [World.frozen?_setCell]; exact h3
  · rw [World.cell?_setCell_other _ _ _ _ (fun e => h5 (by injection e with e1; exact e1.symm))]; exact h4 i hi

theorem grown_set (w : World) (hs : Nat) (v : Value) : w.grownBy (w.setCell ⟨hs, 1, none⟩ v) (some hs) :=
  ⟨rfl, rfl, rfl, by simp [World.setCell], fun k _ hk => Below.heap_setCell _ _ _ _ (fun e => hk (by simp [e]))⟩
theorem grown_drewN (w : World) (q : Nat) (row : Option Nat) : w.grownBy (w.drewN q) row := ⟨rfl, rfl, rfl, Nat.le_refl _, fun _ _ _ => rfl⟩

theorem idrop_cons (l : List Int) (k : Nat) (h : k < l.length) : l.drop k = l.getD k 0 :: l.drop (k + 1) := by
  rw [List.drop_eq_getElem_cons h]
  simp [h]

/-- The scan, its number said otherwise. -/
theorem Scan.setI {w : World} {hs g cap : Nat} {l : List Int} {p : Nat} (h : Scan w hs g cap l p) {x : Int} (p' : Nat) (hx : x = (p' : Int)) : Scan (w.setCell ⟨hs, 1, none⟩ (.int .i64 x)) hs g cap l p' := by
  subst hx
  exact h.set p'

set_option maxHeartbeats 2000000 in
/-- skipString at a string's opening quote. -/
theorem skipString22 (hs g cap : Nat) (l : List Int) (p m : Nat) (w : World) (hS : Scan w hs g cap l p) (hN : l.length ≤ 16777216) (hp : p < l.length) (he : strEnd (l.drop (p + 1)) = some m) :
    Calls Try.prog 22 #[.pointer (some ⟨hs, 0, none⟩)] w fun e w' => e = .returned (.tuple #[]) ∧ Scan w' hs g cap l (p + 1 + m) ∧ w.grownBy w' (some hs) := by
  have HS : Hid (Scan w hs g cap l p) := hS
  have HE : Hid (strEnd (l.drop (p + 1)) = some m) := he
  obtain ⟨c0, c1, f1, _, _⟩ := hS
  clear he
  go_enter Try.func22, Try.ntmps22
  go_wp2
  go_loopg [36, 45] m (fun gk _ _ wr => ∃ k m' : Nat, Hid (Scan wr hs g cap l k) ∧ Hid (strEnd (l.drop k) = some m') ∧ k + m' = p + 1 + m ∧ m' ≤ gk ∧ w.grownBy wr (some hs))
  case atStart => exact ⟨p + 1, m, HS.out.setI (p + 1) (by omega), HE, rfl, Nat.le_refl _, grown_set _ _ _⟩
  case round =>
    obtain ⟨k, m', HR, HK, hkm, hgk, hgr⟩ := hrel
    have hpos := strEnd_pos HK.out
    rw [List.length_drop] at hpos
    have hkl : k < l.length := by omega
    have hd := idrop_cons l k hkl
    obtain ⟨r0, r1, r2, r3, r4⟩ := HR.out
    have rc := r3 k hkl
    have ci : (k : Int) < (l.length : Int) := by omega
    obtain ⟨c, hc⟩ : ∃ c, c = l.getD k 0 := ⟨_, rfl⟩
    rw [← hc] at hd rc
    have HKc : Hid (strEnd (c :: l.drop (k + 1)) = some m') := by
      have := HK.out
      rw [hd] at this
      exact this
    clear hc r3 c0 c1 f1 HK hd r4
    by_cases h92 : c = 92
    · have hb : (c == 92) = true := by simpa using h92
      obtain ⟨m2, HM, hm2, hk2⟩ : ∃ m2, Hid (strEnd (l.drop (k + 2)) = some m2) ∧ m' = m2 + 2 ∧ k + 1 < l.length := by
        have h := HKc.out
        rw [h92] at h
        by_cases hk1 : k + 1 < l.length
        · rw [idrop_cons l (k + 1) hk1] at h
          obtain ⟨m2, h2, rfl⟩ := strEnd_esc h
          exact ⟨m2, h2, rfl, hk1⟩
        · rw [List.drop_of_length_le (by omega)] at h
          exact absurd h (strEnd_esc_one m')
      clear h92 HKc
      go_wp2_with fail
      go_quiet (fail)
      go_wp2_with fail
      go_quiet (fail)
      go_wp2_with fail
      go_roundg m2
      case measure => omega
      case rel =>
        exact ⟨k + 2, m2, ((HR.out.drewN _).setI (k + 1) (by omega)).setI (k + 2) (by omega), HM, by omega, Nat.le_refl _, grown_trans hgr (grown_trans (grown_drewN _ _ _) (grown_trans (grown_set _ _ _) (grown_set _ _ _)))⟩
    · have hb : (c == 92) = false := by simpa using h92
      by_cases h34 : c = 34
      · have hb2 : (c == 34) = true := by simpa using h34
        have hm1 : m' = 1 := by
          have h := HKc.out
          rw [h34, strEnd_quote] at h
          injection h with h
          exact h.symm
        have HM1 : Hid (k + 1 = p + 1 + m) := by show _ = _; omega
        clear h34 h92 HKc hm1
        go_wp2_with fail
        go_quiet (fail)
        go_wp2_with fail
        go_quiet (fail)
        go_wp2_with fail
        refine bodyPost_ret (results_none rfl _ _ _) rfl ?_
        exact ⟨rfl, by rw [← HM1.out]; exact (HR.out.drewN _).setI (k + 1) (by omega), grown_trans hgr (grown_trans (grown_drewN _ _ _) (grown_set _ _ _))⟩
      · have hb2 : (c == 34) = false := by simpa using h34
        obtain ⟨m2, h2, hm2⟩ := strEnd_other HKc.out h34 h92
        have HM : Hid (strEnd (l.drop (k + 1)) = some m2) := h2
        clear h34 h92 HKc h2
        go_wp2_with fail
        go_quiet (fail)
        go_wp2_with fail
        go_quiet (fail)
        go_wp2_with fail
        go_roundg m2
        case measure => omega
        case rel => exact ⟨k + 1, m2, (HR.out.drewN _).setI (k + 1) (by omega), HM, by omega, Nat.le_refl _, grown_trans hgr (grown_trans (grown_drewN _ _ _) (grown_set _ _ _))⟩

theorem drewN_two (w : World) (a b : Nat) : ∃ q, (w.drewN a).drewN b = w.drewN q := ⟨a + b, by simp⟩

set_option maxHeartbeats 1000000 in
/-- peek within the data. -/
theorem peek30 (hs g cap : Nat) (l : List Int) (p : Nat) (w : World) (hS : Scan w hs g cap l p) (_hN : l.length ≤ 16777216) (hp : p < l.length) :
    Calls Try.prog 30 #[.pointer (some ⟨hs, 0, none⟩)] w fun e w' => e = .returned (.int .u8 (l.getD p 0)) ∧ ∃ q, w' = w.drewN q := by
  obtain ⟨c0, c1, f1, c3, _⟩ := hS
  have rc := c3 p hp
  have ci : (p : Int) < (l.length : Int) := by omega
  have hdf : decide ((l.length : Int) ≤ (p : Int)) = false := decide_eq_false (by omega)
  obtain ⟨c, hc⟩ : ∃ c, c = l.getD p 0 := ⟨_, rfl⟩
  rw [← hc] at rc ⊢
  clear c3 hc
  go_enter Try.func30, Try.ntmps30
  go_wp2_with fail
  go_quiet (fail)
  go_wp2_with fail
  go_quiet (fail)
  go_wp2_with fail
  go_ret
  exact ⟨rfl, drewN_two _ _ _⟩

end Go.Proofs.Qxb6001517a
