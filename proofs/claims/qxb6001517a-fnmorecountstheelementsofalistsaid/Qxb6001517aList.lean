/-
  zzBuildList: the walk.
-/
import Derived.Test.Qxb6001517aListPlain
import Derived.Test.Qxb6001517aBytes
import Derived.Deep.LoopGhost
namespace Go.Proofs.Qxb6001517a
open Go.RowKit

def LInv (k N : Nat) (X : List Int) : Prop := ∃ t, X = 91 :: t ∧ Pre k t ∧ N = t.length + 1
theorem linv_first {N : Nat} {X : List Int} {s2 s3 : ByteArray} (h : LInv 0 N X) (hb : Blanks (nums s2)) (he : Elem (nums s3)) : LInv 1 (N + s2.size + s3.size) ((X ++ nums s2) ++ nums s3) := by
  obtain ⟨t, rfl, hp, rfl⟩ := h
  rcases hp with ⟨_, rfl⟩ | ⟨h, _⟩
  · refine ⟨nums s2 ++ nums s3, rfl, pre_first hb he, ?_⟩
    rw [List.length_append, nums_length, nums_length, List.length_nil]
    omega
  · omega
theorem linv_next {k N : Nat} {X : List Int} {s1 s2 s3 : ByteArray} (h : LInv k N X) (hk : 0 < k) (h1 : Blanks (nums s1)) (hb : Blanks (nums s2)) (he : Elem (nums s3)) : LInv (k + 1) (N + s1.size + 1 + s2.size + s3.size) ((((X ++ nums s1) ++ [44]) ++ nums s2) ++ nums s3) := by
  obtain ⟨t, rfl, hp, rfl⟩ := h
  refine ⟨t ++ (nums s1 ++ 44 :: (nums s2 ++ nums s3)), by simp, pre_next hp hk h1 hb he, ?_⟩
  simp only [List.length_append, List.length_cons, nums_length]
  omega

/-- It returns the text of a list of n items, in a row of its own. -/
def RetList (w w' : World) (n C : Nat) (e : Ending) : Prop := ∃ t g, (∀ suf, Turn suf n (t ++ suf)) ∧ e = .returned (.slice (some ⟨g, 0, none⟩) (t.length + 1) C) ∧ BRow w' g (t.length + 1) C (91 :: t) ∧ w.heap.size ≤ g ∧ t.length + 1 ≤ C

def CInv (n k M : Nat) (Y : List Int) : Prop := ∃ t b, Y = 91 :: (t ++ b) ∧ Pre n t ∧ Blanks b ∧ M = (t ++ b).length + 1 ∧ b.length = k
theorem cinv_start {n N : Nat} {X : List Int} (h : LInv n N X) : CInv n 0 N X := by
  obtain ⟨t, rfl, hp, rfl⟩ := h
  exact ⟨t, [], by simp, hp, (fun c hc => by cases hc), by simp, rfl⟩
theorem cinv_next {n k M : Nat} {Y : List Int} {c : Int} (h : CInv n k M Y) (hc : isB c = true) : CInv n (k + 1) (M + 1) (Y ++ [c]) := by
  obtain ⟨t, b, rfl, hp, hb, rfl, rfl⟩ := h
  refine ⟨t, b ++ [c], by simp, hp, fun x hx => ?_, by simp; omega, by simp⟩
  rcases List.mem_append.1 hx with h | h
  · exact hb x h
  · obtain rfl : x = c := by simpa using h
    exact hc
theorem cinv_end {n k M : Nat} {Y : List Int} (h : CInv n k M Y) : ∃ t, Y ++ [93] = 91 :: t ∧ M + 1 = t.length + 1 ∧ ∀ suf, Turn suf n (t ++ suf) := by
  obtain ⟨t, b, rfl, hp, hb, rfl, rfl⟩ := h
  refine ⟨t ++ (b ++ [93]), by simp, by simp; omega, fun suf => ?_⟩
  have := pre_end hp hb suf
  simpa using this

set_option maxRecDepth 1000000 in
set_option maxHeartbeats 4000000 in
theorem build19 (ao : Option Addr) (n c : Nat) (zs : List Int) (b off : Nat) (a1 : Option Addr) (n1 c1 : Nat) (l1 : List Int) (b1 o1 : Nat) (w : World) (hA : ARow w ao n zs b off) (hA1 : ARow w a1 n1 l1 b1 o1)
    (hz : ∀ z ∈ zs, 0 ≤ z ∧ z ≤ 255) (hz1 : ∀ z ∈ l1, 0 ≤ z ∧ z ≤ 255) (hn : n ≤ 32768) (hn1 : n1 ≤ 65536) :
    Calls Try.prog 19 #[.slice ao n c, .slice a1 n1 c1] w fun e w' => Below w.heap.size w w' ∧ RetList w w' n (24 * n + n1 + 8) e := by
  obtain ⟨i5, hi5, y0, y1, y2⟩ := info_parts Try.info5
  have HA : Hid (ARow w ao n zs b off) := hA
  have HA1 : Hid (ARow w a1 n1 l1 b1 o1) := hA1
  have HZ : Hid (∀ z ∈ zs, 0 ≤ z ∧ z ≤ 255) := hz
  have HZ1 : Hid (∀ z ∈ l1, 0 ≤ z ∧ z ≤ 255) := hz1
  obtain ⟨C, hC⟩ : ∃ C, C = 24 * n + n1 + 8 := ⟨_, rfl⟩
  rw [← hC]
  have HC : Hid (C = 24 * n + n1 + 8) := hC
  clear hA hz hA1 hz1 hC
  go_enter Try.func19, Try.ntmps19
  go_wp2_with (at_make; refine wpList_make_own _ rfl _ _ 22 rfl 0 5 i5 (.int .u8 0) 1 Try.underlying22 hi5 y0 y1 .i64 .i64 _ C rfl rfl (by have := HC.out; first | omega | simp [this]) ?m2 ?m3 (Nat.zero_le _) ?_)
  case m2 => rw [y2]; have := HC.out; omega
  case m3 => unfold maxLen; have := HC.out; omega
  intro w1 hown1 hgrow1
  have HO1 : Hid (BRow w1 w.heap.size 0 C []) := hown1
  have hb1 : Below w.heap.size w w1 := below_of_grown hgrow1 (fun g hg => by cases hg)
  clear hown1 hgrow1
  have hC1 : 1 ≤ C := by have := HC.out; omega
  go_wp2_with (at_builtin; refine wpList_append_fits _ rfl (.tmp 17) (.tmp 18) 22 rfl 0 5 i5 1 Try.underlying22 hi5 y1 w.heap.size 0 C _ rfl (World.ownsRow.alloc HO1.out _) ⟨w1.heap.size, 0, none⟩ 1 1 [.int .u8 91] rfl rfl (cell_one_new _ _ _) (oneCell_int _) (by omega) ?_)
  intro w2 hown2 hgrow2
  have HO2 : Hid (BRow w2 w.heap.size 1 C [91]) := brow_snoc (l := []) hown2
  have hb2 : Below w.heap.size w w2 := (hb1.alloc hb1.size _).grown hgrow2 (by have := hb1.size; simp; omega) (fun g hg => by cases hg; exact Nat.le_refl _)
  clear hown2 hgrow2 HO1 hb1
  obtain ⟨g0, hg0⟩ : ∃ g0, g0 = w.heap.size := ⟨_, rfl⟩
  rw [← hg0] at HO2 ⊢
  have hg0le : w.heap.size ≤ g0 := by omega
  clear hg0
  go_wp2_with fail
  go_loopg [5, 6, 7] n (fun gk v0 z _ wr => ∃ (k N : Nat) (X : List Int), k + gk = n ∧ z = .int .i64 k ∧ Hid (LInv k N X) ∧ v0 = .slice (some ⟨g0, 0, none⟩) N C ∧ N ≤ 24 * k + 1 ∧ Hid (BRow wr g0 N C X) ∧ Below w.heap.size w wr)
  case atStart => exact ⟨0, 1, [91], by omega, rfl, ⟨[], rfl, pre_zero, rfl⟩, rfl, by omega, HO2, hb2⟩
  case round =>
    obtain ⟨k, N, X, hkn, rfl, HI, rfl, hNk, HR, hbel⟩ := hrel
    by_cases hlt : k < n
    · have hAr := HA.out.below hbel (fun h0 => (HA.out.2.1 h0).2)
      have hcell := hAr.2.2 k hlt
      obtain ⟨hao, _⟩ := hAr.2.1 (by omega)
      subst hao
      have hzr := HZ.out (zs.getD k 0) (by rw [List.getD_eq_getElem?_getD, List.getElem?_eq_getElem (by rw [HA.out.1]; exact hlt)]; exact List.getElem_mem _)
      obtain ⟨z, hz⟩ : ∃ z, z = zs.getD k 0 := ⟨_, rfl⟩
      rw [← hz] at hcell hzr
      obtain ⟨hz0, hz1⟩ := hzr
      have hroom : N + 23 ≤ C := by have := HC.out; omega
      have hCb : C ≤ 16777216 := by have := HC.out; omega
      clear hz hAr
      by_cases hk0 : k = 0
      · have d0 : decide (0 < k) = false := decide_eq_false (by omega)
        have HI0 : Hid (LInv 0 N X) := by show LInv _ _ _; rw [← hk0]; exact HI.out
        have HK0 : Hid (k = 0) := hk0
        clear hk0
        go_wp2_with fail
        refine (ws26 (z / 32) _ (by omega) (by omega)).mono ?_
        rintro x6 w6 ⟨rfl, s2, rfl, hs2, hbk2⟩
        have HS2 : Hid (Blanks (nums s2)) := hbk2
        clear hbk2
        go_wp2_with fail
        refine (appendStr24 g0 N C X s2 _ HR.out (by omega) hCb).mono ?_
        rintro x7 w7 ⟨rfl, hB7, hg7⟩
        have HR7 : Hid (BRow w7 g0 (N + s2.size) C (X ++ nums s2)) := hB7
        have hb7 : Below w.heap.size w w7 := (hbel).grown hg7 (hbel).size (fun g hg => by cases hg; exact hg0le)
        clear hB7 hg7
        go_wp2_with fail
        refine (elem27 z _ hz0 hz1).mono ?_
        rintro x8 w8 ⟨rfl, s3, rfl, hs3, hel3⟩
        have HS3 : Hid (Elem (nums s3)) := hel3
        clear hel3
        go_wp2_with fail
        refine (appendStr24 g0 (N + s2.size) C (X ++ nums s2) s3 _ HR7.out (by omega) hCb).mono ?_
        rintro x9 w9 ⟨rfl, hB9, hg9⟩
        have HR9 : Hid (BRow w9 g0 (N + s2.size + s3.size) C ((X ++ nums s2) ++ nums s3)) := hB9
        have hb9 : Below w.heap.size w w9 := hb7.grown hg9 hb7.size (fun g hg => by cases hg; exact hg0le)
        clear hB9 hg9
        have HI9 : Hid (LInv (k + 1) (N + s2.size + s3.size) ((X ++ nums s2) ++ nums s3)) := by show LInv _ _ _; rw [HK0.out]; exact linv_first HI0.out HS2.out HS3.out
        go_wp2_with fail
        go_roundg (n - (k + 1))
        case measure => omega
        case rel => exact ⟨k + 1, N + s2.size + s3.size, _, by omega, by go_num, HI9, rfl, by omega, HR9, hb9⟩
      · have d0 : decide (0 < k) = true := decide_eq_true (by omega)
        have HK0 : Hid (0 < k) := by show 0 < k; omega
        clear hk0
        go_wp2_with fail
        refine (ws26 (z / 4) _ (by omega) (by omega)).mono ?_
        rintro x3 w3 ⟨rfl, s1, rfl, hs1, hbk1⟩
        have HS1 : Hid (Blanks (nums s1)) := hbk1
        clear hbk1
        go_wp2_with fail
        refine (appendStr24 g0 N C X s1 _ HR.out (by omega) hCb).mono ?_
        rintro x4 w4 ⟨rfl, hB4, hg4⟩
        have HR4 : Hid (BRow w4 g0 (N + s1.size) C (X ++ nums s1)) := hB4
        have hb4 : Below w.heap.size w w4 := hbel.grown hg4 hbel.size (fun g hg => by cases hg; exact hg0le)
        clear hB4 hg4
        go_wp2_with (at_builtin; refine wpList_append_fits _ rfl (.tmp 37) (.tmp 38) 22 rfl 0 5 i5 1 Try.underlying22 hi5 y1 g0 (N + s1.size) C _ rfl (World.ownsRow.alloc HR4.out _) ⟨w4.heap.size, 0, none⟩ 1 1 [.int .u8 44] rfl rfl (cell_one_new _ _ _) (oneCell_int _) (by omega) ?_)
        intro w5 hown5 hgrow5
        have HR5 : Hid (BRow w5 g0 (N + s1.size + 1) C ((X ++ nums s1) ++ [44])) := brow_snoc hown5
        have hb5 : Below w.heap.size w w5 := (hb4.alloc hb4.size _).grown hgrow5 (by have := hb4.size; simp; omega) (fun g hg => by cases hg; exact hg0le)
        clear hown5 hgrow5
        go_wp2_with fail
        refine (ws26 (z / 32) _ (by omega) (by omega)).mono ?_
        rintro x6 w6 ⟨rfl, s2, rfl, hs2, hbk2⟩
        have HS2 : Hid (Blanks (nums s2)) := hbk2
        clear hbk2
        go_wp2_with fail
        refine (appendStr24 g0 (N + s1.size + 1) C ((X ++ nums s1) ++ [44]) s2 _ HR5.out (by omega) hCb).mono ?_
        rintro x7 w7 ⟨rfl, hB7, hg7⟩
        have HR7 : Hid (BRow w7 g0 ((N + s1.size + 1) + s2.size) C (((X ++ nums s1) ++ [44]) ++ nums s2)) := hB7
        have hb7 : Below w.heap.size w w7 := (hb5).grown hg7 (hb5).size (fun g hg => by cases hg; exact hg0le)
        clear hB7 hg7
        go_wp2_with fail
        refine (elem27 z _ hz0 hz1).mono ?_
        rintro x8 w8 ⟨rfl, s3, rfl, hs3, hel3⟩
        have HS3 : Hid (Elem (nums s3)) := hel3
        clear hel3
        go_wp2_with fail
        refine (appendStr24 g0 ((N + s1.size + 1) + s2.size) C (((X ++ nums s1) ++ [44]) ++ nums s2) s3 _ HR7.out (by omega) hCb).mono ?_
        rintro x9 w9 ⟨rfl, hB9, hg9⟩
        have HR9 : Hid (BRow w9 g0 ((N + s1.size + 1) + s2.size + s3.size) C ((((X ++ nums s1) ++ [44]) ++ nums s2) ++ nums s3)) := hB9
        have hb9 : Below w.heap.size w w9 := hb7.grown hg9 hb7.size (fun g hg => by cases hg; exact hg0le)
        clear hB9 hg9
        have HI9 : Hid (LInv (k + 1) ((N + s1.size + 1) + s2.size + s3.size) ((((X ++ nums s1) ++ [44]) ++ nums s2) ++ nums s3)) := linv_next HI.out HK0.out HS1.out HS2.out HS3.out
        go_wp2_with fail
        go_roundg (n - (k + 1))
        case measure => omega
        case rel => exact ⟨k + 1, (N + s1.size + 1) + s2.size + s3.size, _, by omega, by go_num, HI9, rfl, by omega, HR9, hb9⟩
    · have hkm : k = n := by omega
      have HI2 : Hid (CInv n 0 N X) := by
        have h := HI.out
        rw [hkm] at h
        exact cinv_start h
      have hNC : N + n1 + 1 ≤ C := by have := HC.out; omega
      clear HI hkm
      go_wp2_with fail
      go_loopg [5, 8] n1 (fun gk v0 z wr => ∃ (j M : Nat) (Y : List Int), j + gk = n1 ∧ z = .int .i64 j ∧ Hid (CInv n j M Y) ∧ v0 = .slice (some ⟨g0, 0, none⟩) M C ∧ M = N + j ∧ Hid (BRow wr g0 M C Y) ∧ Below w.heap.size w wr)
      case atStart => exact ⟨0, N, X, by omega, rfl, HI2, rfl, rfl, HR, hbel⟩
      case round =>
        obtain ⟨j, M, Y, hjn, rfl, HJ, rfl, hMj, HRj, hbj⟩ := hrel
        by_cases hltj : j < n1
        · have hAr := HA1.out.below hbj (fun h0 => (HA1.out.2.1 h0).2)
          have hcell := hAr.2.2 j hltj
          obtain ⟨hao, _⟩ := hAr.2.1 (by omega)
          subst hao
          have hzr := HZ1.out (l1.getD j 0) (by rw [List.getD_eq_getElem?_getD, List.getElem?_eq_getElem (by rw [HA1.out.1]; exact hltj)]; exact List.getElem_mem _)
          obtain ⟨z, hz⟩ : ∃ z, z = l1.getD j 0 := ⟨_, rfl⟩
          rw [← hz] at hcell hzr
          obtain ⟨hz0, hz1⟩ := hzr
          have hroom : M + 1 ≤ C := by omega
          have HMj : Hid (M = N + j) := hMj
          clear hz hAr hMj
          go_wp2_with fail
          refine (blank28 z _ hz0 hz1).mono ?_
          rintro x3 w3 ⟨rfl, cb, rfl, hcb⟩
          have HCB : Hid (isB cb = true) := hcb
          clear hcb
          go_wp2_with (at_builtin; refine wpList_append_fits _ rfl (.tmp 55) (.tmp 61) 22 rfl 0 5 i5 1 Try.underlying22 hi5 y1 g0 M C _ rfl (World.ownsRow.alloc HRj.out _) ⟨w3.heap.size, 0, none⟩ 1 1 [.int .u8 cb] rfl rfl (cell_one_new _ _ _) (oneCell_int _) (by omega) ?_)
          intro w5 hown5 hgrow5
          have HR5 : Hid (BRow w5 g0 (M + 1) C (Y ++ [cb])) := brow_snoc hown5
          have hb5 : Below w.heap.size w w5 := (hbj.alloc hbj.size _).grown hgrow5 (by have := hbj.size; simp; omega) (fun g hg => by cases hg; exact hg0le)
          clear hown5 hgrow5
          have HJ5 : Hid (CInv n (j + 1) (M + 1) (Y ++ [cb])) := cinv_next HJ.out HCB.out
          go_wp2_with fail
          go_roundg (n1 - (j + 1))
          case measure => omega
          case rel => exact ⟨j + 1, M + 1, _, by omega, by go_num, HJ5, rfl, by have := HMj.out; omega, HR5, hb5⟩
        · have hroom : M + 1 ≤ C := by omega
          clear hMj
          go_wp2_with (at_builtin; refine wpList_append_fits _ rfl (.tmp 63) (.tmp 64) 22 rfl 0 5 i5 1 Try.underlying22 hi5 y1 g0 M C _ rfl (World.ownsRow.alloc HRj.out _) ⟨_, 0, none⟩ 1 1 [.int .u8 93] rfl rfl (cell_one_new _ _ _) (oneCell_int _) (by omega) ?_)
          intro w5 hown5 hgrow5
          have HR5 : Hid (BRow w5 g0 (M + 1) C (Y ++ [93])) := brow_snoc hown5
          have hb5 : Below w.heap.size w w5 := (hbj.alloc hbj.size _).grown hgrow5 (by have := hbj.size; simp; omega) (fun g hg => by cases hg; exact hg0le)
          clear hown5 hgrow5
          go_wp2_with fail
          go_ret
          obtain ⟨t, ht, hM, hT⟩ := cinv_end HJ.out
          refine ⟨hb5, t, g0, hT, by rw [← hM]; rfl, ?_, hg0le, by omega⟩
          have h := HR5.out
          rw [ht, hM] at h
          exact h

end Go.Proofs.Qxb6001517a
