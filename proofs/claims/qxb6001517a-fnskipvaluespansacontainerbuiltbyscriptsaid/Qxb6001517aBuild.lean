/-
  zzBuildContainer: the walk.
-/
import Derived.Test.Qxb6001517aBuildPlain
import Derived.Deep.CutRange
namespace Go.Proofs.Qxb6001517a
open Go.RowKit

theorem Try.info4 : (Try.prog.info? 4).map (fun i => (i.zero, i.size, i.bytes)) = some (some (.bool false), 1, 1) := by kernel_rfl

/-- It returns a container's text in new memory. -/
def RetCont (w w' : World) (C : Nat) (e : Ending) : Prop := ∃ T g, Cont T ∧ e = .returned (.slice (some ⟨g, 0, none⟩) T.flatten.length C) ∧ BRow w' g T.flatten.length C T.flatten ∧ w.heap.size ≤ g ∧ T.flatten.length ≤ C

/-- What holds of the tokens, the kinds and the marks behind i operations. -/
def BInv (i : Nat) (T : List (List Int)) (ks : List Int) (fs : List Bool) : Prop := Open T ks.length ∧ ks.length = fs.length ∧ 1 ≤ ks.length ∧ ks.length ≤ i + 1 ∧ T.flatten.length + ks.length ≤ 24 * i + 2

set_option maxRecDepth 1000000 in
set_option maxHeartbeats 4000000 in
theorem build14 (ao : Option Addr) (n c : Nat) (zs : List Int) (b off : Nat) (w : World) (hA : ARow w ao n zs b off) (hz : ∀ z ∈ zs, 0 ≤ z ∧ z ≤ 255) (hn : n ≤ 32768) :
    Calls Try.prog 14 #[.slice ao n c] w fun e w' => Below w.heap.size w w' ∧ RetCont w w' (24 * n + 2) e := by
  obtain ⟨i5, hi5, y0, y1, y2⟩ := info_parts Try.info5
  obtain ⟨i4, hi4, x0, x1, x2⟩ := info_parts Try.info4
  have HA : Hid (ARow w ao n zs b off) := hA
  have HZ : Hid (∀ z ∈ zs, 0 ≤ z ∧ z ≤ 255) := hz
  clear hA hz
  go_enter Try.func14, Try.ntmps14
  go_wp2_with (at_make; refine wpList_make_own _ rfl _ _ 22 rfl 0 5 i5 (.int .u8 0) 1 Try.underlying22 hi5 y0 y1 .i64 .i64 _ (24 * n + 2) rfl rfl (by first | omega | simp) ?m2 ?m3 (Nat.zero_le _) ?_)
  case m2 => rw [y2]; omega
  case m3 => unfold maxLen; omega
  intro w1 hown1 hgrow1
  have HO1 : Hid (BRow w1 w.heap.size 0 (24 * n + 2) []) := hown1
  have hb1 : Below w.heap.size w w1 := below_of_grown hgrow1 (fun g hg => by cases hg)
  clear hown1 hgrow1
  go_wp2_with (at_builtin; refine wpList_append_fits _ rfl (.tmp 15) (.tmp 16) 22 rfl 0 5 i5 1 Try.underlying22 hi5 y1 w.heap.size 0 (24 * n + 2) _ rfl (World.ownsRow.alloc HO1.out _) ⟨w1.heap.size, 0, none⟩ 1 1 [.int .u8 91] rfl rfl (cell_one_new _ _ _) (oneCell_int _) (by omega) ?_)
  intro w2 hown2 hgrow2
  have HO2 : Hid (BRow w2 w.heap.size 1 (24 * n + 2) [91]) := brow_snoc (l := []) hown2
  have hb2 : Below w.heap.size w w2 := (hb1.alloc hb1.size _).grown hgrow2 (by have := hb1.size; simp; omega) (fun g hg => by cases hg; exact Nat.le_refl _)
  clear hown2 hgrow2 HO1 hb1
  go_wp2_with (at_make; refine wpList_make_own _ rfl _ _ 22 rfl 0 5 i5 (.int .u8 0) 1 Try.underlying22 hi5 y0 y1 .i64 .i64 _ (n + 1) rfl rfl (by first | omega | simp) ?m4 ?m5 (Nat.zero_le _) ?_)
  case m4 => rw [y2]; omega
  case m5 => unfold maxLen; omega
  intro w3 hown3 hgrow3
  have hlt2 := HO2.out.lt
  obtain ⟨g1, hg1⟩ : ∃ g1, g1 = w2.heap.size := ⟨_, rfl⟩
  rw [← hg1] at hown3 hlt2 ⊢
  have HG1 : Hid (g1 = w2.heap.size) := hg1
  have HO3 : Hid (BRow w3 g1 0 (n + 1) [] ∧ BRow w3 w.heap.size 1 (24 * n + 2) [91]) := ⟨hown3, HO2.out.kept hgrow3 (by simp)⟩
  have hb3 : Below w.heap.size w w3 := hb2.grown hgrow3 hb2.size (fun g hg => by cases hg)
  clear hown3 hgrow3 HO2 hb2 hg1
  have hsz3 := hb3.size
  go_wp2_with (at_builtin; refine wpList_append_fits _ rfl (.tmp 22) (.tmp 23) 22 rfl 0 5 i5 1 Try.underlying22 hi5 y1 g1 0 (n + 1) _ rfl (World.ownsRow.alloc HO3.out.1 _) ⟨w3.heap.size, 0, none⟩ 1 1 [.int .u8 97] rfl rfl (cell_one_new _ _ _) (oneCell_int _) (by omega) ?_)
  intro w4 hown4 hgrow4
  have HO4 : Hid (BRow w4 g1 1 (n + 1) [97] ∧ BRow w4 w.heap.size 1 (24 * n + 2) [91]) := ⟨brow_snoc (l := []) hown4, (HO3.out.2.alloc _).kept hgrow4 (by simp; omega)⟩
  have hb4 : Below w.heap.size w w4 := (hb3.alloc hb3.size _).grown hgrow4 (by simp; omega) (fun g hg => by cases hg; omega)
  clear hown4 hgrow4 HO3 hb3 hsz3
  go_wp2_with (at_make; refine wpList_make_own _ rfl _ _ 35 rfl 0 4 i4 (.bool false) 1 Try.underlying35 hi4 x0 x1 .i64 .i64 _ (n + 1) rfl rfl (by first | omega | simp) ?m6 ?m7 (Nat.zero_le _) ?_)
  case m6 => rw [x2]; omega
  case m7 => unfold maxLen; omega
  intro w5 hown5 hgrow5
  have hlt4 := HO4.out.1.lt
  obtain ⟨g2, hg2⟩ : ∃ g2, g2 = w4.heap.size := ⟨_, rfl⟩
  rw [← hg2] at hown5 hlt4 ⊢
  have HO5 : Hid (R3 w5 w.heap.size 1 (24 * n + 2) [91] g1 1 (n + 1) [97] g2 0 (n + 1) []) := ⟨HO4.out.2.kept hgrow5 (by simp), HO4.out.1.kept hgrow5 (by simp), hown5, by omega, by omega, by omega⟩
  have hb5 : Below w.heap.size w w5 := hb4.grown hgrow5 hb4.size (fun g hg => by cases hg)
  clear hown5 hgrow5 HO4 hb4 hg2
  have hsz5 := hb5.size
  go_wp2_with (at_builtin; refine wpList_append_fits _ rfl (.tmp 29) (.tmp 30) 35 rfl 0 4 i4 1 Try.underlying35 hi4 x1 g2 0 (n + 1) _ rfl (World.ownsRow.alloc HO5.out.2.2.1 _) ⟨w5.heap.size, 0, none⟩ 1 1 [.bool true] rfl rfl (cell_one_new _ _ _) (oneCell_bool _) (by omega) ?_)
  intro w6 hown6 hgrow6
  have HO6 : Hid (R3 w6 w.heap.size 1 (24 * n + 2) [91] g1 1 (n + 1) [97] g2 1 (n + 1) [true]) := (HO5.out.alloc _).marks hgrow6 (frow_snoc (l := []) hown6)
  have hb6 : Below w.heap.size w w6 := (hb5.alloc hb5.size _).grown hgrow6 (by simp; omega) (fun g hg => by cases hg; omega)
  clear hown6 hgrow6 HO5 hb5 hsz5
  obtain ⟨g0, hg0⟩ : ∃ g0, g0 = w.heap.size := ⟨_, rfl⟩
  rw [← hg0] at HO6 hlt2 ⊢
  have HG0 : Hid (g0 = w.heap.size) := hg0
  have hg0le : w.heap.size ≤ g0 := by omega
  clear hg0 HG1
  go_wp2_with fail
  go_loopg [3, 4, 5, 6, 7, 8] n (fun gk v0 v1 v2 z _ _ wr => ∃ (k : Nat) (T : List (List Int)) (ks : List Int) (fs : List Bool) (n0 n1 : Nat), k + gk = n ∧ z = .int .i64 k ∧ Hid (BInv k T ks fs) ∧ Hid (n0 = T.flatten.length ∧ n1 = ks.length) ∧ v0 = .slice (some ⟨g0, 0, none⟩) n0 (24 * n + 2) ∧ v1 = .slice (some ⟨g1, 0, none⟩) n1 (n + 1) ∧ v2 = .slice (some ⟨g2, 0, none⟩) n1 (n + 1) ∧ Hid (R3 wr g0 n0 (24 * n + 2) T.flatten g1 n1 (n + 1) ks g2 n1 (n + 1) fs) ∧ Below w.heap.size w wr)
  case atStart => exact ⟨0, [[91]], [97], [true], 1, 1, by omega, rfl, ⟨open_one rfl (by decide), rfl, by decide, by decide, by decide⟩, ⟨rfl, rfl⟩, rfl, rfl, rfl, HO6, hb6⟩
  case round =>
    obtain ⟨k, T, ks, fs, n0, n1, hkn, rfl, HI, HN, rfl, rfl, rfl, HR, hbel⟩ := hrel
    obtain ⟨q1, q2, q3, q4, q5⟩ := HI.out
    obtain ⟨e0, e1⟩ := HN.out
    have p1 : 1 ≤ n1 := by omega
    have p2 : n1 ≤ k + 1 := by omega
    have p3 : n0 + n1 ≤ 24 * k + 2 := by omega
    clear q1 q2 q3 q4 q5 e0 e1
    by_cases hlt : k < n
    · have hAr := HA.out.below hbel (fun h0 => (HA.out.2.1 h0).2)
      have hcell := hAr.2.2 k hlt
      obtain ⟨hao, _⟩ := hAr.2.1 (by omega)
      subst hao
      have hzr := HZ.out (zs.getD k 0) (by rw [List.getD_eq_getElem?_getD, List.getElem?_eq_getElem (by rw [HA.out.1]; exact hlt)]; exact List.getElem_mem _)
      obtain ⟨z, hz⟩ : ∃ z, z = zs.getD k 0 := ⟨_, rfl⟩
      rw [← hz] at hcell hzr
      obtain ⟨hz0, hz1⟩ := hzr
      clear hz hAr
      obtain ⟨top, rfl⟩ : ∃ top, n1 = top + 1 := ⟨n1 - 1, by omega⟩
      have hdeep : Open T ((top + 1 : Nat) : Int) := by have h := HI.out.1; rw [← HN.out.2] at h; exact h
      have HD : Hid (Open T ((top + 1 : Nat) : Int)) := hdeep
      have ck := HR.out.2.1.cell top (by omega)
      have cf := HR.out.2.2.1.cell top (by omega)
      obtain ⟨kd, hkd⟩ : ∃ kd, kd = ks.getD top 0 := ⟨_, rfl⟩
      obtain ⟨f, hf⟩ : ∃ f, f = fs.getD top false := ⟨_, rfl⟩
      rw [← hkd] at ck
      rw [← hf] at cf
      clear hkd hf hdeep
      by_cases h5 : z % 6 = 5
      · have b5 : (z % 6 == 5) = true := by simpa using h5
        clear h5
        by_cases ht0 : top = 0
        · have bt : ((top : Int) == 0) = true := by rw [beq_iff_eq]; omega
          have HB : Hid (BInv (k + 1) T ks fs) := by
            obtain ⟨a1, a2, a3, a4, a5⟩ := HI.out
            exact ⟨a1, a2, a3, by omega, by omega⟩
          clear ht0
          go_wp2_with fail
          go_roundg (n - (k + 1))
          case measure => omega
          case rel => exact ⟨k + 1, T, ks, fs, n0, top + 1, by omega, by go_num, HB, HN, rfl, rfl, rfl, HR, hbel⟩
        · have bt : ((top : Int) == 0) = false := by rw [beq_eq_false_iff_ne]; omega
          have htp : 1 ≤ top := by omega
          clear ht0
          go_wp2_with fail
          refine (closer23 g0 n0 (24 * n + 2) T.flatten kd _ HR.out.1 (by omega)).mono ?_
          rintro e7 w7 ⟨rfl, hB7, hg7⟩
          have HR7 : Hid (R3 w7 g0 (n0 + 1) (24 * n + 2) (T ++ [[closer kd]]).flatten g1 top (n + 1) (ks.take top) g2 top (n + 1) (fs.take top)) := by
            show R3 _ _ _ _ _ _ _ _ _ _ _ _ _
            rw [List.flatten_append]
            have h := HR.out.out hg7 hB7
            exact ⟨h.1, h.2.1.pop, h.2.2.1.pop, h.2.2.2⟩
          have hb7 : Below w.heap.size w w7 := hbel.grown hg7 hbel.size (fun g hg => by cases hg; exact hg0le)
          have hfl : (T ++ [[closer kd]]).flatten.length = n0 + 1 := by rw [List.flatten_append, List.length_append, ← HN.out.1]; rfl
          have HB : Hid (BInv (k + 1) (T ++ [[closer kd]]) (ks.take top) (fs.take top)) := by
            obtain ⟨a1, a2, a3, a4, a5⟩ := HI.out
            have e1 := HN.out.2
            have l1 : (ks.take top).length = top := by rw [List.length_take]; omega
            have l2 : (fs.take top).length = top := by rw [List.length_take]; omega
            refine ⟨?_, by omega, by omega, by omega, by omega⟩
            have h := open_snoc HD.out (tok_closer kd) (by rw [delta_closer]; omega)
            rw [delta_closer, show (((top + 1 : Nat) : Int) + -1) = (top : Int) by omega] at h
            rw [l1]
            exact h
          have HNN : Hid (n0 + 1 = (T ++ [[closer kd]]).flatten.length ∧ top = (ks.take top).length) := ⟨hfl.symm, by have e1 := HN.out.2; rw [List.length_take]; omega⟩
          clear hB7 hg7 hfl
          go_wp2_with fail
          go_roundg (n - (k + 1))
          case measure => omega
          case rel => exact ⟨k + 1, _, _, _, n0 + 1, top, by omega, by go_num, HB, HNN, rfl, rfl, rfl, HR7, hb7⟩
      · have b5 : (z % 6 == 5) = false := by simpa using h5
        clear h5
        go_upto_if 66 with fail
        go_cut [3] from 32 to 112 (fun v3 wx => ∃ (m0 : Nat) (T1 : List (List Int)), v3 = .slice (some ⟨g0, 0, none⟩) m0 (24 * n + 2) ∧ m0 ≤ n0 + 2 ∧ Hid (Open T1 ((top + 1 : Nat) : Int) ∧ m0 = T1.flatten.length) ∧ Hid (R3 wx g0 m0 (24 * n + 2) T1.flatten g1 (top + 1) (n + 1) ks g2 (top + 1) (n + 1) fs) ∧ Below w.heap.size w wx)
        case first =>
          cases f with
          | true =>
            go_wp2_with fail
            go_meet
            case rel => exact ⟨n0, T, rfl, by omega, ⟨HD.out, HN.out.1⟩, HR, hbel⟩
          | false =>
            go_wp2_with (at_builtin; refine wpList_append_fits _ rfl (.tmp 67) (.tmp 68) 22 rfl 0 5 i5 1 Try.underlying22 hi5 y1 g0 n0 (24 * n + 2) _ rfl (World.ownsRow.alloc HR.out.1 _) ⟨wr.heap.size, 0, none⟩ 2 2 [.int .u8 44, .int .u8 32] rfl rfl (cell_two_new _ _ _ _) (oneCell_two _ _) (by omega) ?_)
            intro w7 hown7 hgrow7
            have HR7 : Hid (R3 w7 g0 (n0 + 2) (24 * n + 2) (T ++ [[44], [32]]).flatten g1 (top + 1) (n + 1) ks g2 (top + 1) (n + 1) fs) := by
              show R3 _ _ _ _ _ _ _ _ _ _ _ _ _
              rw [List.flatten_append]
              exact (HR.out.alloc _).out hgrow7 (brow_two hown7)
            have HD7 : Hid (Open (T ++ [[44], [32]]) ((top + 1 : Nat) : Int) ∧ n0 + 2 = (T ++ [[44], [32]]).flatten.length) := ⟨open_quiet HD.out (by omega) _ (quiet_list [44, 32] (by decide)), by rw [List.flatten_append, List.length_append, ← HN.out.1]; rfl⟩
            have hb7 : Below w.heap.size w w7 := (hbel.alloc hbel.size _).grown hgrow7 (by have := hbel.size; simp; omega) (fun g hg => by cases hg; exact hg0le)
            clear hown7 hgrow7
            go_wp2_with fail
            go_meet
            case rel => exact ⟨n0 + 2, _, rfl, by omega, HD7, HR7, hb7⟩
        case rest =>
          obtain ⟨m0, T1, rfl, hm0, HD1, HR1, hb1⟩ := hcut
          have ck1 := HR1.out.2.1.cell top (by omega)
          have cf1 := HR1.out.2.2.1.cell top (by omega)
          have fz1 := World.ownsRow.frozenAt HR1.out.2.2.1 top
          have hst := HR1.out.2.2.1.store top false
          have HR2 : Hid (R3 (wc.setCell ⟨g2, top, none⟩ (.bool false)) g0 m0 (24 * n + 2) T1.flatten g1 (top + 1) (n + 1) ks g2 (top + 1) (n + 1) (fs.set top false)) := HR1.out.marks hst.2 hst.1
          have hb2 : Below w.heap.size w (wc.setCell ⟨g2, top, none⟩ (.bool false)) := hb1.setCell (p := ⟨g2, top, none⟩) (by show w.heap.size ≤ g2; omega) _
          have ck2 := HR2.out.2.1.cell top (by omega)
          obtain ⟨kd, hkd⟩ : ∃ kd, kd = ks.getD top 0 := ⟨_, rfl⟩
          obtain ⟨f, hf⟩ : ∃ f, f = fs.getD top false := ⟨_, rfl⟩
          rw [← hkd] at ck1 ck2
          rw [← hf] at cf1
          clear hkd hf hst
          go_upto_if 77 with fail
          go_cut [3] from 32 to 112 (fun v3 wx => ∃ (m1 : Nat) (T2 : List (List Int)), v3 = .slice (some ⟨g0, 0, none⟩) m1 (24 * n + 2) ∧ m1 ≤ m0 + 5 ∧ Hid (Open T2 ((top + 1 : Nat) : Int) ∧ m1 = T2.flatten.length) ∧ Hid (R3 wx g0 m1 (24 * n + 2) T2.flatten g1 (top + 1) (n + 1) ks g2 (top + 1) (n + 1) (fs.set top false)) ∧ Below w.heap.size w wx)
          case first =>
            cases hkb : (kd == 111) with
            | false =>
              go_wp2_with fail
              go_meet
              case rel => exact ⟨m0, T1, rfl, by omega, HD1, HR2, hb2⟩
            | true =>
              go_wp2_with fail
              refine (appendStr24 g0 m0 (24 * n + 2) T1.flatten ⟨#[34, 107, 93, 34, 58]⟩ _ HR2.out.1 (by show m0 + 5 ≤ _; omega) (by omega)).mono ?_
              rintro e7 w7 ⟨rfl, hB7, hg7⟩
              have HR7 : Hid (R3 w7 g0 (m0 + 5) (24 * n + 2) (T1 ++ [[34, 107, 93, 34], [58]]).flatten g1 (top + 1) (n + 1) ks g2 (top + 1) (n + 1) (fs.set top false)) := by
                show R3 _ _ _ _ _ _ _ _ _ _ _ _ _
                rw [List.flatten_append]
                exact HR2.out.out hg7 hB7
              have HD7 : Hid (Open (T1 ++ [[34, 107, 93, 34], [58]]) ((top + 1 : Nat) : Int) ∧ m0 + 5 = (T1 ++ [[34, 107, 93, 34], [58]]).flatten.length) := ⟨open_quiet HD1.out.1 (by omega) _ quiet_key, by rw [List.flatten_append, List.length_append, ← HD1.out.2]; rfl⟩
              have hb7 : Below w.heap.size w w7 := hb2.grown hg7 hb2.size (fun g hg => by cases hg; exact hg0le)
              clear hB7 hg7
              go_wp2_with fail
              go_meet
              case rel => exact ⟨m0 + 5, _, rfl, by omega, HD7, HR7, hb7⟩
          case rest =>
            obtain ⟨m1, T2, rfl, hm1, HD2, HR3, hb3⟩ := hcut
            have hfl : (fs.set top false).length = fs.length := List.length_set
            have HL : Hid ((fs.set top false).length = top + 1 ∧ ks.length = top + 1) := ⟨by rw [hfl, ← HI.out.2.1, ← HN.out.2], HN.out.2.symm⟩
            obtain ⟨fs', hfs'⟩ : ∃ fs', fs' = fs.set top false := ⟨_, rfl⟩
            rw [← hfs'] at HL HR3
            clear hfs'
            clear hfl ck1 cf1 fz1 ck2 HR2 hb2 HD1 HR1 hb1 HR hbel HI HN HD ck cf
            by_cases k0 : z % 6 = 0
            · have d0 : (z % 6 == 0) = true := by simpa using k0
              clear k0
              go_wp2_with (at_builtin; refine wpList_append_fits _ rfl (.tmp 85) (.tmp 86) 22 rfl 0 5 i5 1 Try.underlying22 hi5 y1 g0 m1 (24 * n + 2) _ rfl (World.ownsRow.alloc HR3.out.1 _) ⟨wc.heap.size, 0, none⟩ 1 1 [.int .u8 91] rfl rfl (cell_one_new _ _ _) (oneCell_int _) (by omega) ?_)
              intro w7 hown7 hgrow7
              have HR7 : Hid (R3 w7 g0 (m1 + 1) (24 * n + 2) (T2.flatten ++ [91]) g1 (top + 1) (n + 1) ks g2 (top + 1) (n + 1) (fs')) := (HR3.out.alloc _).out hgrow7 (brow_snoc hown7)
              have hb7 : Below w.heap.size w w7 := (hb3.alloc hb3.size _).grown hgrow7 (by have := hb3.size; simp; omega) (fun g hg => by cases hg; exact hg0le)
              clear hown7 hgrow7
              go_wp2_with (at_builtin; refine wpList_append_fits _ rfl (.tmp 88) (.tmp 89) 22 rfl 0 5 i5 1 Try.underlying22 hi5 y1 g1 (top + 1) (n + 1) _ rfl (World.ownsRow.alloc HR7.out.2.1 _) ⟨w7.heap.size, 0, none⟩ 1 1 [.int .u8 97] rfl rfl (cell_one_new _ _ _) (oneCell_int _) (by omega) ?_)
              intro w8 hown8 hgrow8
              have HR8 : Hid (R3 w8 g0 (m1 + 1) (24 * n + 2) (T2.flatten ++ [91]) g1 (top + 1 + 1) (n + 1) (ks ++ [97]) g2 (top + 1) (n + 1) (fs')) := (HR7.out.alloc _).kinds hgrow8 (brow_snoc hown8)
              have hb8 : Below w.heap.size w w8 := (hb7.alloc hb7.size _).grown hgrow8 (by have := hb7.size; simp; omega) (fun g hg => by cases hg; omega)
              clear hown8 hgrow8
              go_wp2_with (at_builtin; refine wpList_append_fits _ rfl (.tmp 91) (.tmp 92) 35 rfl 0 4 i4 1 Try.underlying35 hi4 x1 g2 (top + 1) (n + 1) _ rfl (World.ownsRow.alloc HR8.out.2.2.1 _) ⟨w8.heap.size, 0, none⟩ 1 1 [.bool true] rfl rfl (cell_one_new _ _ _) (oneCell_bool _) (by omega) ?_)
              intro w9 hown9 hgrow9
              have HR9 : Hid (R3 w9 g0 (m1 + 1) (24 * n + 2) (T2 ++ [[91]]).flatten g1 (top + 1 + 1) (n + 1) (ks ++ [97]) g2 (top + 1 + 1) (n + 1) (fs' ++ [true])) := by
                show R3 _ _ _ _ _ _ _ _ _ _ _ _ _
                rw [List.flatten_append]
                exact (HR8.out.alloc _).marks hgrow9 (frow_snoc hown9)
              have hb9 : Below w.heap.size w w9 := (hb8.alloc hb8.size _).grown hgrow9 (by have := hb8.size; simp; omega) (fun g hg => by cases hg; omega)
              have hfl : (T2 ++ [[91]]).flatten.length = m1 + 1 := by rw [List.flatten_append, List.length_append, ← HD2.out.2]; rfl
              have HB : Hid (BInv (k + 1) (T2 ++ [[91]]) (ks ++ [97]) (fs' ++ [true])) := by
                have e1 : (ks ++ [97]).length = top + 2 := by rw [List.length_append, HL.out.2]; rfl
                have e2 : (fs' ++ [true]).length = top + 2 := by rw [List.length_append, HL.out.1]; rfl
                have e3 := open_snoc (t := [91]) HD2.out.1 (.inl ⟨91, rfl, by decide⟩) (by show 1 ≤ _ + (1 : Int); omega)
                refine ⟨?_, by omega, by omega, by omega, by omega⟩
                rw [e1]
                exact e3
              have HNN : Hid (m1 + 1 = (T2 ++ [[91]]).flatten.length ∧ top + 1 + 1 = (ks ++ [97]).length) := ⟨hfl.symm, by rw [List.length_append, HL.out.2]; rfl⟩
              clear hown9 hgrow9 hfl
              go_wp2_with fail
              go_roundg (n - (k + 1))
              case measure => omega
              case rel => exact ⟨k + 1, _, _, _, m1 + 1, top + 1 + 1, by omega, by go_num, HB, HNN, rfl, rfl, rfl, HR9, hb9⟩
            · have d0 : (z % 6 == 0) = false := by simpa using k0
              by_cases k1 : z % 6 = 1
              · have d1 : (z % 6 == 1) = true := by simpa using k1
                clear k0 k1
                go_wp2_with (at_builtin; refine wpList_append_fits _ rfl (.tmp 96) (.tmp 97) 22 rfl 0 5 i5 1 Try.underlying22 hi5 y1 g0 m1 (24 * n + 2) _ rfl (World.ownsRow.alloc HR3.out.1 _) ⟨wc.heap.size, 0, none⟩ 1 1 [.int .u8 123] rfl rfl (cell_one_new _ _ _) (oneCell_int _) (by omega) ?_)
                intro w7 hown7 hgrow7
                have HR7 : Hid (R3 w7 g0 (m1 + 1) (24 * n + 2) (T2.flatten ++ [123]) g1 (top + 1) (n + 1) ks g2 (top + 1) (n + 1) (fs')) := (HR3.out.alloc _).out hgrow7 (brow_snoc hown7)
                have hb7 : Below w.heap.size w w7 := (hb3.alloc hb3.size _).grown hgrow7 (by have := hb3.size; simp; omega) (fun g hg => by cases hg; exact hg0le)
                clear hown7 hgrow7
                go_wp2_with (at_builtin; refine wpList_append_fits _ rfl (.tmp 99) (.tmp 100) 22 rfl 0 5 i5 1 Try.underlying22 hi5 y1 g1 (top + 1) (n + 1) _ rfl (World.ownsRow.alloc HR7.out.2.1 _) ⟨w7.heap.size, 0, none⟩ 1 1 [.int .u8 111] rfl rfl (cell_one_new _ _ _) (oneCell_int _) (by omega) ?_)
                intro w8 hown8 hgrow8
                have HR8 : Hid (R3 w8 g0 (m1 + 1) (24 * n + 2) (T2.flatten ++ [123]) g1 (top + 1 + 1) (n + 1) (ks ++ [111]) g2 (top + 1) (n + 1) (fs')) := (HR7.out.alloc _).kinds hgrow8 (brow_snoc hown8)
                have hb8 : Below w.heap.size w w8 := (hb7.alloc hb7.size _).grown hgrow8 (by have := hb7.size; simp; omega) (fun g hg => by cases hg; omega)
                clear hown8 hgrow8
                go_wp2_with (at_builtin; refine wpList_append_fits _ rfl (.tmp 102) (.tmp 103) 35 rfl 0 4 i4 1 Try.underlying35 hi4 x1 g2 (top + 1) (n + 1) _ rfl (World.ownsRow.alloc HR8.out.2.2.1 _) ⟨w8.heap.size, 0, none⟩ 1 1 [.bool true] rfl rfl (cell_one_new _ _ _) (oneCell_bool _) (by omega) ?_)
                intro w9 hown9 hgrow9
                have HR9 : Hid (R3 w9 g0 (m1 + 1) (24 * n + 2) (T2 ++ [[123]]).flatten g1 (top + 1 + 1) (n + 1) (ks ++ [111]) g2 (top + 1 + 1) (n + 1) (fs' ++ [true])) := by
                  show R3 _ _ _ _ _ _ _ _ _ _ _ _ _
                  rw [List.flatten_append]
                  exact (HR8.out.alloc _).marks hgrow9 (frow_snoc hown9)
                have hb9 : Below w.heap.size w w9 := (hb8.alloc hb8.size _).grown hgrow9 (by have := hb8.size; simp; omega) (fun g hg => by cases hg; omega)
                have hfl : (T2 ++ [[123]]).flatten.length = m1 + 1 := by rw [List.flatten_append, List.length_append, ← HD2.out.2]; rfl
                have HB : Hid (BInv (k + 1) (T2 ++ [[123]]) (ks ++ [111]) (fs' ++ [true])) := by
                  have e1 : (ks ++ [111]).length = top + 2 := by rw [List.length_append, HL.out.2]; rfl
                  have e2 : (fs' ++ [true]).length = top + 2 := by rw [List.length_append, HL.out.1]; rfl
                  have e3 := open_snoc (t := [123]) HD2.out.1 (.inl ⟨123, rfl, by decide⟩) (by show 1 ≤ _ + (1 : Int); omega)
                  refine ⟨?_, by omega, by omega, by omega, by omega⟩
                  rw [e1]
                  exact e3
                have HNN : Hid (m1 + 1 = (T2 ++ [[123]]).flatten.length ∧ top + 1 + 1 = (ks ++ [111]).length) := ⟨hfl.symm, by rw [List.length_append, HL.out.2]; rfl⟩
                clear hown9 hgrow9 hfl
                go_wp2_with fail
                go_roundg (n - (k + 1))
                case measure => omega
                case rel => exact ⟨k + 1, _, _, _, m1 + 1, top + 1 + 1, by omega, by go_num, HB, HNN, rfl, rfl, rfl, HR9, hb9⟩
              · have d1 : (z % 6 == 1) = false := by simpa using k1
                by_cases k2 : z % 6 = 2
                · have d2 : (z % 6 == 2) = true := by simpa using k2
                  clear k0 k1 k2
                  go_wp2_with fail
                  refine (appendStr24 g0 m1 (24 * n + 2) T2.flatten ⟨#[45, 49, 50, 46, 53, 101, 51]⟩ _ HR3.out.1 (by show m1 + 7 ≤ _; omega) (by omega)).mono ?_
                  rintro e7 w7 ⟨rfl, hB7, hg7⟩
                  have HR9 : Hid (R3 w7 g0 (m1 + 7) (24 * n + 2) (T2 ++ [[45], [49], [50], [46], [53], [101], [51]]).flatten g1 (top + 1) (n + 1) ks g2 (top + 1) (n + 1) (fs')) := by
                    show R3 _ _ _ _ _ _ _ _ _ _ _ _ _
                    rw [List.flatten_append]
                    exact HR3.out.out hg7 hB7
                  have hb9 : Below w.heap.size w w7 := hb3.grown hg7 hb3.size (fun g hg => by cases hg; exact hg0le)
                  have hfl : (T2 ++ [[45], [49], [50], [46], [53], [101], [51]]).flatten.length = m1 + 7 := by rw [List.flatten_append, List.length_append, ← HD2.out.2]; rfl
                  have HB : Hid (BInv (k + 1) (T2 ++ [[45], [49], [50], [46], [53], [101], [51]]) ks (fs')) := by
                    have e3 := open_quiet HD2.out.1 (by omega) [[45], [49], [50], [46], [53], [101], [51]] (quiet_list [45, 49, 50, 46, 53, 101, 51] (by decide))
                    have e1 := HL.out.2
                    have e2 := HL.out.1
                    refine ⟨?_, by omega, by omega, by omega, by omega⟩
                    rw [e1]
                    exact e3
                  have HNN : Hid (m1 + 7 = (T2 ++ [[45], [49], [50], [46], [53], [101], [51]]).flatten.length ∧ top + 1 = ks.length) := ⟨hfl.symm, HL.out.2.symm⟩
                  clear hB7 hg7 hfl
                  go_wp2_with fail
                  go_roundg (n - (k + 1))
                  case measure => omega
                  case rel => exact ⟨k + 1, _, _, _, m1 + 7, top + 1, by omega, by go_num, HB, HNN, rfl, rfl, rfl, HR9, hb9⟩
                · have d2 : (z % 6 == 2) = false := by simpa using k2
                  by_cases k3 : z % 6 = 3
                  · have d3 : (z % 6 == 3) = true := by simpa using k3
                    clear k0 k1 k2 k3
                    go_wp2_with fail
                    refine (appendStr24 g0 m1 (24 * n + 2) T2.flatten ⟨#[34, 97, 92, 34, 93, 125, 123, 91, 92, 92, 34]⟩ _ HR3.out.1 (by show m1 + 11 ≤ _; omega) (by omega)).mono ?_
                    rintro e7 w7 ⟨rfl, hB7, hg7⟩
                    have HR9 : Hid (R3 w7 g0 (m1 + 11) (24 * n + 2) (T2 ++ [[34, 97, 92, 34, 93, 125, 123, 91, 92, 92, 34]]).flatten g1 (top + 1) (n + 1) ks g2 (top + 1) (n + 1) (fs')) := by
                      show R3 _ _ _ _ _ _ _ _ _ _ _ _ _
                      rw [List.flatten_append]
                      exact HR3.out.out hg7 hB7
                    have hb9 : Below w.heap.size w w7 := hb3.grown hg7 hb3.size (fun g hg => by cases hg; exact hg0le)
                    have hfl : (T2 ++ [[34, 97, 92, 34, 93, 125, 123, 91, 92, 92, 34]]).flatten.length = m1 + 11 := by rw [List.flatten_append, List.length_append, ← HD2.out.2]; rfl
                    have HB : Hid (BInv (k + 1) (T2 ++ [[34, 97, 92, 34, 93, 125, 123, 91, 92, 92, 34]]) ks (fs')) := by
                      have e3 := open_quiet HD2.out.1 (by omega) [[34, 97, 92, 34, 93, 125, 123, 91, 92, 92, 34]] quiet_str
                      have e1 := HL.out.2
                      have e2 := HL.out.1
                      refine ⟨?_, by omega, by omega, by omega, by omega⟩
                      rw [e1]
                      exact e3
                    have HNN : Hid (m1 + 11 = (T2 ++ [[34, 97, 92, 34, 93, 125, 123, 91, 92, 92, 34]]).flatten.length ∧ top + 1 = ks.length) := ⟨hfl.symm, HL.out.2.symm⟩
                    clear hB7 hg7 hfl
                    go_wp2_with fail
                    go_roundg (n - (k + 1))
                    case measure => omega
                    case rel => exact ⟨k + 1, _, _, _, m1 + 11, top + 1, by omega, by go_num, HB, HNN, rfl, rfl, rfl, HR9, hb9⟩
                  · have d3 : (z % 6 == 3) = false := by simpa using k3
                    clear k0 k1 k2 k3
                    go_wp2_with fail
                    refine (appendStr24 g0 m1 (24 * n + 2) T2.flatten ⟨#[116, 114, 117, 101]⟩ _ HR3.out.1 (by show m1 + 4 ≤ _; omega) (by omega)).mono ?_
                    rintro e7 w7 ⟨rfl, hB7, hg7⟩
                    have HR9 : Hid (R3 w7 g0 (m1 + 4) (24 * n + 2) (T2 ++ [[116], [114], [117], [101]]).flatten g1 (top + 1) (n + 1) ks g2 (top + 1) (n + 1) (fs')) := by
                      show R3 _ _ _ _ _ _ _ _ _ _ _ _ _
                      rw [List.flatten_append]
                      exact HR3.out.out hg7 hB7
                    have hb9 : Below w.heap.size w w7 := hb3.grown hg7 hb3.size (fun g hg => by cases hg; exact hg0le)
                    have hfl : (T2 ++ [[116], [114], [117], [101]]).flatten.length = m1 + 4 := by rw [List.flatten_append, List.length_append, ← HD2.out.2]; rfl
                    have HB : Hid (BInv (k + 1) (T2 ++ [[116], [114], [117], [101]]) ks (fs')) := by
                      have e3 := open_quiet HD2.out.1 (by omega) [[116], [114], [117], [101]] (quiet_list [116, 114, 117, 101] (by decide))
                      have e1 := HL.out.2
                      have e2 := HL.out.1
                      refine ⟨?_, by omega, by omega, by omega, by omega⟩
                      rw [e1]
                      exact e3
                    have HNN : Hid (m1 + 4 = (T2 ++ [[116], [114], [117], [101]]).flatten.length ∧ top + 1 = ks.length) := ⟨hfl.symm, HL.out.2.symm⟩
                    clear hB7 hg7 hfl
                    go_wp2_with fail
                    go_roundg (n - (k + 1))
                    case measure => omega
                    case rel => exact ⟨k + 1, _, _, _, m1 + 4, top + 1, by omega, by go_num, HB, HNN, rfl, rfl, rfl, HR9, hb9⟩
    · have hkn' : k = n := by omega
      have HZE : Hid (k = n) := hkn'
      clear hkn' HA
      have HF : Hid (if n1 = 0 then Cont T else Open T (n1 : Int)) := by
        show ite _ _ _
        rw [if_neg (by omega)]
        have h := HI.out.1
        rw [← HN.out.2] at h
        exact h
      have HM0 : Hid (n0 = T.flatten.length) := HN.out.1
      have p4 : n0 + n1 ≤ 24 * n + 2 := by omega
      clear HI HN HZ
      go_wp2_with fail
      go_loopg [3, 9] n1 (fun gk v0 z wr => ∃ (r m : Nat) (U : List (List Int)), r = gk ∧ z = .int .i64 ((r : Int) - 1) ∧ v0 = .slice (some ⟨g0, 0, none⟩) m (24 * n + 2) ∧ Hid (if r = 0 then Cont U else Open U (r : Int)) ∧ Hid (m = U.flatten.length) ∧ m + r ≤ 24 * n + 2 ∧ r ≤ n1 ∧ Hid (R3 wr g0 m (24 * n + 2) U.flatten g1 n1 (n + 1) ks g2 n1 (n + 1) fs) ∧ Below w.heap.size w wr)
      case atStart => exact ⟨n1, n0, T, rfl, by go_num, rfl, HF, HM0, p4, Nat.le_refl _, HR, hbel⟩
      case round =>
        obtain ⟨r, m, U, hrg, rfl, rfl, HF1, HM1, hm1, hr1, HR1, hb1⟩ := hrel
        by_cases hr0 : 0 < r
        · obtain ⟨t, rfl⟩ : ∃ t, r = t + 1 := ⟨r - 1, by omega⟩
          have ck := HR1.out.2.1.cell t (by omega)
          obtain ⟨kd, hkd⟩ : ∃ kd, kd = ks.getD t 0 := ⟨_, rfl⟩
          rw [← hkd] at ck
          clear hkd
          have HO1 : Hid (Open U ((t + 1 : Nat) : Int)) := by
            have h := HF1.out
            rw [if_neg (by omega)] at h
            exact h
          have et : (((t + 1 : Nat) : Int) - 1) = (t : Int) := by omega
          rw [et]
          clear HF1 et
          go_wp2_with fail
          refine (closer23 g0 m (24 * n + 2) U.flatten kd _ HR1.out.1 (by omega)).mono ?_
          rintro e7 w7 ⟨rfl, hB7, hg7⟩
          have HR7 : Hid (R3 w7 g0 (m + 1) (24 * n + 2) (U ++ [[closer kd]]).flatten g1 n1 (n + 1) ks g2 n1 (n + 1) fs) := by
            show R3 _ _ _ _ _ _ _ _ _ _ _ _ _
            rw [List.flatten_append]
            exact HR1.out.out hg7 hB7
          have hb7 : Below w.heap.size w w7 := hb1.grown hg7 hb1.size (fun g hg => by cases hg; exact hg0le)
          have HM7 : Hid (m + 1 = (U ++ [[closer kd]]).flatten.length) := by show _ = _; rw [List.flatten_append, List.length_append, ← HM1.out]; rfl
          have HF7 : Hid (if t = 0 then Cont (U ++ [[closer kd]]) else Open (U ++ [[closer kd]]) (t : Int)) := by
            show ite _ _ _
            obtain ⟨a, b', c'⟩ := closer_facts kd
            by_cases ht : t = 0
            · rw [if_pos ht]
              subst ht
              exact cont_close HO1.out a b' c'
            · rw [if_neg ht]
              have h := open_snoc HO1.out (tok_closer kd) (by rw [delta_closer]; omega)
              rw [delta_closer, show (((t + 1 : Nat) : Int) + -1) = (t : Int) by omega] at h
              exact h
          clear hB7 hg7
          go_wp2_with fail
          go_roundg t
          case measure => omega
          case rel => exact ⟨t, m + 1, _, rfl, by go_num, rfl, HF7, HM7, by omega, by omega, HR7, hb7⟩
        · have hr00 : r = 0 := by omega
          subst hr00
          have HC : Hid (Cont U) := by
            have h := HF1.out
            rw [if_pos rfl] at h
            exact h
          clear HF1
          go_wp2_with fail
          go_ret
          refine ⟨hb1, U, g0, HC.out, ?_, ?_, hg0le, ?_⟩
          · rw [← HM1.out]; rfl
          · rw [← HM1.out]; exact HR1.out.1
          · rw [← HM1.out]; omega

end Go.Proofs.Qxb6001517a
