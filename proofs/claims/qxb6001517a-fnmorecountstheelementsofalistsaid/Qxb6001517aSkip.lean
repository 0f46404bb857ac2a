/-
  skipValue at a container: the walk.
-/
import Derived.Test.Qxb6001517aTok
namespace Go.Proofs.Qxb6001517a
open Go.RowKit

set_option maxHeartbeats 4000000 in
/-- skipValue at a container. -/
theorem skipCont25 (hs g cap : Nat) (l rest : List Int) (T : List (List Int)) (p : Nat) (w : World) (hS : Scan w hs g cap l p) (hN : l.length ≤ 16777216) (hT : Cont T) (hl : l.drop p = T.flatten ++ rest) (hp : p ≤ l.length) :
    Calls Try.prog 25 #[.pointer (some ⟨hs, 0, none⟩)] w fun e w' => e = .returned (.tuple #[]) ∧ Scan w' hs g cap l (p + T.flatten.length) ∧ w.grownBy w' (some hs) := by
  obtain ⟨hpl, hop⟩ := cont_first hT hl hp
  have HS : Hid (Scan w hs g cap l p) := hS
  have HT : Hid (Cont T ∧ l.drop p = T.flatten ++ rest) := ⟨hT, hl⟩
  have hTl : T.length ≤ l.length := by
    have h1 := flat_length hT.1
    have h2 := congrArg List.length hl
    rw [List.length_drop, List.length_append] at h2
    omega
  have HPK := peek30 hs g cap l p w hS hN hpl
  obtain ⟨c0, hc0⟩ : ∃ c0, c0 = l.getD p 0 := ⟨_, rfl⟩
  rw [← hc0] at HPK hop
  have HPK2 : Hid (Calls Try.prog 30 #[.pointer (some ⟨hs, 0, none⟩)] w fun e w' => e = .returned (.int .u8 c0) ∧ ∃ q, w' = w.drewN q) := HPK
  have hcc : c0 = 123 ∨ c0 = 91 := by
    unfold isOpen at hop
    simpa using hop
  have h34 : (c0 == 34) = false := by rcases hcc with h | h <;> subst h <;> rfl
  rcases (show (c0 == 123) = true ∨ ((c0 == 123) = false ∧ (c0 == 91) = true) by
    rcases hcc with h | h <;> subst h
    · exact .inl rfl
    · exact .inr ⟨rfl, rfl⟩) with h123 | ⟨h123, h91⟩
  · clear hS hT hl HPK hc0 hop hcc
    go_enter Try.func25, Try.ntmps25
    go_wp2_with (go_at_call 30; refine HPK2.out.mono ?_; rintro x9 w9 ⟨rfl, q9, rfl⟩)
    go_loopg [2, 63, 67, 72] T.length (fun gk z _ _ _ wr => ∃ j P : Nat, j + gk = T.length ∧ j < T.length ∧ z = .int .i64 (dsum (T.take j)) ∧ Hid (P = p + (T.take j).flatten.length) ∧ Hid (Scan wr hs g cap l P) ∧ w.grownBy wr (some hs))
    case atStart => exact ⟨0, p, by omega, by have := HT.out.1.2.2.2; omega, rfl, by simp [Hid], HS.out.drewN _, grown_drewN _ _ _⟩
    case round =>
      obtain ⟨j, P, hjk, hj, rfl, HP, HR, hgr⟩ := hrel
      obtain ⟨P', hP'⟩ : ∃ P', P' = p + (T.take (j + 1)).flatten.length := ⟨_, rfl⟩
      obtain ⟨hPl, hPl', hcase⟩ := cont_step HT.out.1 HT.out.2 hp hj HP.out hP'
      have HP' : Hid (P' = p + (T.take (j + 1)).flatten.length) := hP'
      have hdb := dsum_le (T.take j)
      rw [List.length_take] at hdb
      have HPOS : Hid (∀ i, 0 < i → i < T.length → 1 ≤ dsum (T.take i)) := HT.out.1.2.1
      have HZ : Hid (dsum T = 0) := HT.out.1.2.2.1
      obtain ⟨r0, r1, r2, r3, r4⟩ := HR.out
      have rc := r3 P hPl
      have ci : (P : Int) < (l.length : Int) := by omega
      clear r3 r4 hP'
      obtain ⟨c, hc⟩ : ∃ c, c = l.getD P 0 := ⟨_, rfl⟩
      rw [← hc] at rc hcase
      clear hc
      rcases hcase with ⟨h34c, m, hm, hPm, hds, hj1, _⟩ | ⟨c', hcc', h34c, hPm, hds⟩
      · have hb34 : (c == 34) = true := by simpa using h34c
        have HM : Hid (strEnd (l.drop (P + 1)) = some m) := hm
        have HDS : Hid (dsum (T.take (j + 1)) = dsum (T.take j)) := hds
        have HPM : Hid (P' = P + 1 + m) := hPm
        clear h34c hm hds hPm
        go_wp2_with fail
        go_quiet (fail)
        go_wp2_with fail
        go_quiet (fail)
        go_wp2_with fail
        refine (skipString22 hs g cap l P m _ (by exact HR.out) hN hPl HM.out).mono ?_
        rintro x8 w8 ⟨rfl, hsc, hgr8⟩
        have HSC : Hid (Scan w8 hs g cap l P') := by show Scan _ _ _ _ _ _; rw [HPM.out]; exact hsc
        have hgr2 : w.grownBy w8 (some hs) := grown_trans hgr (grown_trans (grown_drewN _ _ _) hgr8)
        clear hsc hgr8
        go_wp2_with fail
        go_roundg (T.length - (j + 1))
        case measure => omega
        case rel => exact ⟨j + 1, P', by omega, hj1, by rw [HDS.out], HP', HSC, hgr2⟩
      · subst hcc'
        have hb34 : (c == 34) = false := by simpa using h34c
        have HDS : Hid (dsum (T.take (j + 1)) = dsum (T.take j) + deltaC c) := hds
        have HPM : Hid (P' = P + 1) := hPm
        clear h34c hds hPm
        obtain ⟨D, hD⟩ : ∃ D, D = dsum (T.take j) := ⟨_, rfl⟩
        rw [← hD] at HDS hdb ⊢
        clear hD
        by_cases hlast : j + 1 = T.length
        · have HLZ : Hid (D + deltaC c = 0) := by show _ = _; rw [← HDS.out, hlast, List.take_length]; exact HZ.out
          have HPE : Hid (P' = p + T.flatten.length) := by show _ = _; rw [HP'.out, hlast, List.take_length]
          clear hlast HPOS HZ HDS HP' HP
          by_cases k1 : c = 123
          · have b1 : (c == 123) = true := by simpa using k1
            have hz : ((D + 1) == 0) = true := by have := HLZ.out; rw [k1] at this; simpa [deltaC, isOpen] using this
            clear k1
            go_wp2_with fail
            go_quiet (fail)
            go_wp2_with fail
            go_quiet (fail)
            go_wp2_with fail
            refine bodyPost_ret (results_none rfl _ _ _) rfl ?_
            exact ⟨rfl, by rw [← HPE.out, HPM.out]; exact (HR.out.drewN _).setI (P + 1) (by omega), grown_trans hgr (grown_trans (grown_drewN _ _ _) (grown_set _ _ _))⟩
          · have b1 : (c == 123) = false := by simpa using k1
            by_cases k2 : c = 91
            · have b2 : (c == 91) = true := by simpa using k2
              have hz : ((D + 1) == 0) = true := by have := HLZ.out; rw [k2] at this; simpa [deltaC, isOpen] using this
              clear k1 k2
              go_wp2_with fail
              go_quiet (fail)
              go_wp2_with fail
              go_quiet (fail)
              go_wp2_with fail
              refine bodyPost_ret (results_none rfl _ _ _) rfl ?_
              exact ⟨rfl, by rw [← HPE.out, HPM.out]; exact (HR.out.drewN _).setI (P + 1) (by omega), grown_trans hgr (grown_trans (grown_drewN _ _ _) (grown_set _ _ _))⟩
            · have b2 : (c == 91) = false := by simpa using k2
              by_cases k3 : c = 125
              · have b3 : (c == 125) = true := by simpa using k3
                have hz : ((D - 1) == 0) = true := by have := HLZ.out; rw [k3] at this; simp [deltaC, isOpen, isClose] at this; rw [beq_iff_eq]; omega
                clear k1 k2 k3
                go_wp2_with fail
                go_quiet (fail)
                go_wp2_with fail
                go_quiet (fail)
                go_wp2_with fail
                refine bodyPost_ret (results_none rfl _ _ _) rfl ?_
                exact ⟨rfl, by rw [← HPE.out, HPM.out]; exact (HR.out.drewN _).setI (P + 1) (by omega), grown_trans hgr (grown_trans (grown_drewN _ _ _) (grown_set _ _ _))⟩
              · have b3 : (c == 125) = false := by simpa using k3
                by_cases k4 : c = 93
                · have b4 : (c == 93) = true := by simpa using k4
                  have hz : ((D - 1) == 0) = true := by have := HLZ.out; rw [k4] at this; simp [deltaC, isOpen, isClose] at this; rw [beq_iff_eq]; omega
                  clear k1 k2 k3 k4
                  go_wp2_with fail
                  go_quiet (fail)
                  go_wp2_with fail
                  go_quiet (fail)
                  go_wp2_with fail
                  refine bodyPost_ret (results_none rfl _ _ _) rfl ?_
                  exact ⟨rfl, by rw [← HPE.out, HPM.out]; exact (HR.out.drewN _).setI (P + 1) (by omega), grown_trans hgr (grown_trans (grown_drewN _ _ _) (grown_set _ _ _))⟩
                · have b4 : (c == 93) = false := by simpa using k4
                  have hz : (D == 0) = true := by have := HLZ.out; simp [deltaC, isOpen, isClose, k1, k2, k3, k4] at this; rw [beq_iff_eq]; omega
                  clear k1 k2 k3 k4
                  go_wp2_with fail
                  go_quiet (fail)
                  go_wp2_with fail
                  go_quiet (fail)
                  go_wp2_with fail
                  refine bodyPost_ret (results_none rfl _ _ _) rfl ?_
                  exact ⟨rfl, by rw [← HPE.out, HPM.out]; exact (HR.out.drewN _).setI (P + 1) (by omega), grown_trans hgr (grown_trans (grown_drewN _ _ _) (grown_set _ _ _))⟩
        · have hj1 : j + 1 < T.length := by omega
          have HLP : Hid (1 ≤ D + deltaC c) := by show _ ≤ _; rw [← HDS.out]; exact HPOS.out (j + 1) (by omega) hj1
          clear hlast HPOS HZ
          by_cases k1 : c = 123
          · have b1 : (c == 123) = true := by simpa using k1
            have hdc : deltaC c = 1 := by simp [deltaC, isOpen, k1]
            rw [hdc] at HDS HLP
            have hz : ((D + 1) == 0) = false := by have := HLP.out; rw [beq_eq_false_iff_ne]; omega
            clear k1 hdc
            go_wp2_with fail
            go_quiet (fail)
            go_wp2_with fail
            go_quiet (fail)
            go_wp2_with fail
            go_roundg (T.length - (j + 1))
            case measure => omega
            case rel => exact ⟨j + 1, P', by omega, hj1, by first | (rw [HDS.out]; done) | (rw [HDS.out]; go_num), HP', by show Scan _ _ _ _ _ _; rw [HPM.out]; exact (HR.out.drewN _).setI (P + 1) (by omega), grown_trans hgr (grown_trans (grown_drewN _ _ _) (grown_set _ _ _))⟩
          · have b1 : (c == 123) = false := by simpa using k1
            by_cases k2 : c = 91
            · have b2 : (c == 91) = true := by simpa using k2
              have hdc : deltaC c = 1 := by simp [deltaC, isOpen, k2]
              rw [hdc] at HDS HLP
              have hz : ((D + 1) == 0) = false := by have := HLP.out; rw [beq_eq_false_iff_ne]; omega
              clear k1 k2 hdc
              go_wp2_with fail
              go_quiet (fail)
              go_wp2_with fail
              go_quiet (fail)
              go_wp2_with fail
              go_roundg (T.length - (j + 1))
              case measure => omega
              case rel => exact ⟨j + 1, P', by omega, hj1, by first | (rw [HDS.out]; done) | (rw [HDS.out]; go_num), HP', by show Scan _ _ _ _ _ _; rw [HPM.out]; exact (HR.out.drewN _).setI (P + 1) (by omega), grown_trans hgr (grown_trans (grown_drewN _ _ _) (grown_set _ _ _))⟩
            · have b2 : (c == 91) = false := by simpa using k2
              by_cases k3 : c = 125
              · have b3 : (c == 125) = true := by simpa using k3
                have hdc : deltaC c = -1 := by simp [deltaC, isOpen, isClose, k3]
                rw [hdc] at HDS HLP
                have hz : ((D - 1) == 0) = false := by have := HLP.out; rw [beq_eq_false_iff_ne]; omega
                clear k1 k2 k3 hdc
                go_wp2_with fail
                go_quiet (fail)
                go_wp2_with fail
                go_quiet (fail)
                go_wp2_with fail
                go_roundg (T.length - (j + 1))
                case measure => omega
                case rel => exact ⟨j + 1, P', by omega, hj1, by first | (rw [HDS.out]; done) | (rw [HDS.out]; go_num), HP', by show Scan _ _ _ _ _ _; rw [HPM.out]; exact (HR.out.drewN _).setI (P + 1) (by omega), grown_trans hgr (grown_trans (grown_drewN _ _ _) (grown_set _ _ _))⟩
              · have b3 : (c == 125) = false := by simpa using k3
                by_cases k4 : c = 93
                · have b4 : (c == 93) = true := by simpa using k4
                  have hdc : deltaC c = -1 := by simp [deltaC, isOpen, isClose, k4]
                  rw [hdc] at HDS HLP
                  have hz : ((D - 1) == 0) = false := by have := HLP.out; rw [beq_eq_false_iff_ne]; omega
                  clear k1 k2 k3 k4 hdc
                  go_wp2_with fail
                  go_quiet (fail)
                  go_wp2_with fail
                  go_quiet (fail)
                  go_wp2_with fail
                  go_roundg (T.length - (j + 1))
                  case measure => omega
                  case rel => exact ⟨j + 1, P', by omega, hj1, by first | (rw [HDS.out]; done) | (rw [HDS.out]; go_num), HP', by show Scan _ _ _ _ _ _; rw [HPM.out]; exact (HR.out.drewN _).setI (P + 1) (by omega), grown_trans hgr (grown_trans (grown_drewN _ _ _) (grown_set _ _ _))⟩
                · have b4 : (c == 93) = false := by simpa using k4
                  have hdc : deltaC c = 0 := by simp [deltaC, isOpen, isClose, k1, k2, k3, k4]
                  rw [hdc] at HDS HLP
                  have hz : (D == 0) = false := by have := HLP.out; rw [beq_eq_false_iff_ne]; omega
                  clear k1 k2 k3 k4 hdc
                  go_wp2_with fail
                  go_quiet (fail)
                  go_wp2_with fail
                  go_quiet (fail)
                  go_wp2_with fail
                  go_roundg (T.length - (j + 1))
                  case measure => omega
                  case rel => exact ⟨j + 1, P', by omega, hj1, by first | (rw [HDS.out]; done) | (rw [HDS.out]; go_num), HP', by show Scan _ _ _ _ _ _; rw [HPM.out]; exact (HR.out.drewN _).setI (P + 1) (by omega), grown_trans hgr (grown_trans (grown_drewN _ _ _) (grown_set _ _ _))⟩
  · clear hS hT hl HPK hc0 hop hcc
    go_enter Try.func25, Try.ntmps25
    go_wp2_with (go_at_call 30; refine HPK2.out.mono ?_; rintro x9 w9 ⟨rfl, q9, rfl⟩)
    go_loopg [2, 63, 67, 72] T.length (fun gk z _ _ _ wr => ∃ j P : Nat, j + gk = T.length ∧ j < T.length ∧ z = .int .i64 (dsum (T.take j)) ∧ Hid (P = p + (T.take j).flatten.length) ∧ Hid (Scan wr hs g cap l P) ∧ w.grownBy wr (some hs))
    case atStart => exact ⟨0, p, by omega, by have := HT.out.1.2.2.2; omega, rfl, by simp [Hid], HS.out.drewN _, grown_drewN _ _ _⟩
    case round =>
      obtain ⟨j, P, hjk, hj, rfl, HP, HR, hgr⟩ := hrel
      obtain ⟨P', hP'⟩ : ∃ P', P' = p + (T.take (j + 1)).flatten.length := ⟨_, rfl⟩
      obtain ⟨hPl, hPl', hcase⟩ := cont_step HT.out.1 HT.out.2 hp hj HP.out hP'
      have HP' : Hid (P' = p + (T.take (j + 1)).flatten.length) := hP'
      have hdb := dsum_le (T.take j)
      rw [List.length_take] at hdb
      have HPOS : Hid (∀ i, 0 < i → i < T.length → 1 ≤ dsum (T.take i)) := HT.out.1.2.1
      have HZ : Hid (dsum T = 0) := HT.out.1.2.2.1
      obtain ⟨r0, r1, r2, r3, r4⟩ := HR.out
      have rc := r3 P hPl
      have ci : (P : Int) < (l.length : Int) := by omega
      clear r3 r4 hP'
      obtain ⟨c, hc⟩ : ∃ c, c = l.getD P 0 := ⟨_, rfl⟩
      rw [← hc] at rc hcase
      clear hc
      rcases hcase with ⟨h34c, m, hm, hPm, hds, hj1, _⟩ | ⟨c', hcc', h34c, hPm, hds⟩
      · have hb34 : (c == 34) = true := by simpa using h34c
        have HM : Hid (strEnd (l.drop (P + 1)) = some m) := hm
        have HDS : Hid (dsum (T.take (j + 1)) = dsum (T.take j)) := hds
        have HPM : Hid (P' = P + 1 + m) := hPm
        clear h34c hm hds hPm
        go_wp2_with fail
        go_quiet (fail)
        go_wp2_with fail
        go_quiet (fail)
        go_wp2_with fail
        refine (skipString22 hs g cap l P m _ (by exact HR.out) hN hPl HM.out).mono ?_
        rintro x8 w8 ⟨rfl, hsc, hgr8⟩
        have HSC : Hid (Scan w8 hs g cap l P') := by show Scan _ _ _ _ _ _; rw [HPM.out]; exact hsc
        have hgr2 : w.grownBy w8 (some hs) := grown_trans hgr (grown_trans (grown_drewN _ _ _) hgr8)
        clear hsc hgr8
        go_wp2_with fail
        go_roundg (T.length - (j + 1))
        case measure => omega
        case rel => exact ⟨j + 1, P', by omega, hj1, by rw [HDS.out], HP', HSC, hgr2⟩
      · subst hcc'
        have hb34 : (c == 34) = false := by simpa using h34c
        have HDS : Hid (dsum (T.take (j + 1)) = dsum (T.take j) + deltaC c) := hds
        have HPM : Hid (P' = P + 1) := hPm
        clear h34c hds hPm
        obtain ⟨D, hD⟩ : ∃ D, D = dsum (T.take j) := ⟨_, rfl⟩
        rw [← hD] at HDS hdb ⊢
        clear hD
        by_cases hlast : j + 1 = T.length
        · have HLZ : Hid (D + deltaC c = 0) := by show _ = _; rw [← HDS.out, hlast, List.take_length]; exact HZ.out
          have HPE : Hid (P' = p + T.flatten.length) := by show _ = _; rw [HP'.out, hlast, List.take_length]
          clear hlast HPOS HZ HDS HP' HP
          by_cases k1 : c = 123
          · have b1 : (c == 123) = true := by simpa using k1
            have hz : ((D + 1) == 0) = true := by have := HLZ.out; rw [k1] at this; simpa [deltaC, isOpen] using this
            clear k1
            go_wp2_with fail
            go_quiet (fail)
            go_wp2_with fail
            go_quiet (fail)
            go_wp2_with fail
            refine bodyPost_ret (results_none rfl _ _ _) rfl ?_
            exact ⟨rfl, by rw [← HPE.out, HPM.out]; exact (HR.out.drewN _).setI (P + 1) (by omega), grown_trans hgr (grown_trans (grown_drewN _ _ _) (grown_set _ _ _))⟩
          · have b1 : (c == 123) = false := by simpa using k1
            by_cases k2 : c = 91
            · have b2 : (c == 91) = true := by simpa using k2
              have hz : ((D + 1) == 0) = true := by have := HLZ.out; rw [k2] at this; simpa [deltaC, isOpen] using this
              clear k1 k2
              go_wp2_with fail
              go_quiet (fail)
              go_wp2_with fail
              go_quiet (fail)
              go_wp2_with fail
              refine bodyPost_ret (results_none rfl _ _ _) rfl ?_
              exact ⟨rfl, by rw [← HPE.out, HPM.out]; exact (HR.out.drewN _).setI (P + 1) (by omega), grown_trans hgr (grown_trans (grown_drewN _ _ _) (grown_set _ _ _))⟩
            · have b2 : (c == 91) = false := by simpa using k2
              by_cases k3 : c = 125
              · have b3 : (c == 125) = true := by simpa using k3
                have hz : ((D - 1) == 0) = true := by have := HLZ.out; rw [k3] at this; simp [deltaC, isOpen, isClose] at this; rw [beq_iff_eq]; omega
                clear k1 k2 k3
                go_wp2_with fail
                go_quiet (fail)
                go_wp2_with fail
                go_quiet (fail)
                go_wp2_with fail
                refine bodyPost_ret (results_none rfl _ _ _) rfl ?_
                exact ⟨rfl, by rw [← HPE.out, HPM.out]; exact (HR.out.drewN _).setI (P + 1) (by omega), grown_trans hgr (grown_trans (grown_drewN _ _ _) (grown_set _ _ _))⟩
              · have b3 : (c == 125) = false := by simpa using k3
                by_cases k4 : c = 93
                · have b4 : (c == 93) = true := by simpa using k4
                  have hz : ((D - 1) == 0) = true := by have := HLZ.out; rw [k4] at this; simp [deltaC, isOpen, isClose] at this; rw [beq_iff_eq]; omega
                  clear k1 k2 k3 k4
                  go_wp2_with fail
                  go_quiet (fail)
                  go_wp2_with fail
                  go_quiet (fail)
                  go_wp2_with fail
                  refine bodyPost_ret (results_none rfl _ _ _) rfl ?_
                  exact ⟨rfl, by rw [← HPE.out, HPM.out]; exact (HR.out.drewN _).setI (P + 1) (by omega), grown_trans hgr (grown_trans (grown_drewN _ _ _) (grown_set _ _ _))⟩
                · have b4 : (c == 93) = false := by simpa using k4
                  have hz : (D == 0) = true := by have := HLZ.out; simp [deltaC, isOpen, isClose, k1, k2, k3, k4] at this; rw [beq_iff_eq]; omega
                  clear k1 k2 k3 k4
                  go_wp2_with fail
                  go_quiet (fail)
                  go_wp2_with fail
                  go_quiet (fail)
                  go_wp2_with fail
                  refine bodyPost_ret (results_none rfl _ _ _) rfl ?_
                  exact ⟨rfl, by rw [← HPE.out, HPM.out]; exact (HR.out.drewN _).setI (P + 1) (by omega), grown_trans hgr (grown_trans (grown_drewN _ _ _) (grown_set _ _ _))⟩
        · have hj1 : j + 1 < T.length := by omega
          have HLP : Hid (1 ≤ D + deltaC c) := by show _ ≤ _; rw [← HDS.out]; exact HPOS.out (j + 1) (by omega) hj1
          clear hlast HPOS HZ
          by_cases k1 : c = 123
          · have b1 : (c == 123) = true := by simpa using k1
            have hdc : deltaC c = 1 := by simp [deltaC, isOpen, k1]
            rw [hdc] at HDS HLP
            have hz : ((D + 1) == 0) = false := by have := HLP.out; rw [beq_eq_false_iff_ne]; omega
            clear k1 hdc
            go_wp2_with fail
            go_quiet (fail)
            go_wp2_with fail
            go_quiet (fail)
            go_wp2_with fail
            go_roundg (T.length - (j + 1))
            case measure => omega
            case rel => exact ⟨j + 1, P', by omega, hj1, by first | (rw [HDS.out]; done) | (rw [HDS.out]; go_num), HP', by show Scan _ _ _ _ _ _; rw [HPM.out]; exact (HR.out.drewN _).setI (P + 1) (by omega), grown_trans hgr (grown_trans (grown_drewN _ _ _) (grown_set _ _ _))⟩
          · have b1 : (c == 123) = false := by simpa using k1
            by_cases k2 : c = 91
            · have b2 : (c == 91) = true := by simpa using k2
              have hdc : deltaC c = 1 := by simp [deltaC, isOpen, k2]
              rw [hdc] at HDS HLP
              have hz : ((D + 1) == 0) = false := by have := HLP.out; rw [beq_eq_false_iff_ne]; omega
              clear k1 k2 hdc
              go_wp2_with fail
              go_quiet (fail)
              go_wp2_with fail
              go_quiet (fail)
              go_wp2_with fail
              go_roundg (T.length - (j + 1))
              case measure => omega
              case rel => exact ⟨j + 1, P', by omega, hj1, by first | (rw [HDS.out]; done) | (rw [HDS.out]; go_num), HP', by show Scan _ _ _ _ _ _; rw [HPM.out]; exact (HR.out.drewN _).setI (P + 1) (by omega), grown_trans hgr (grown_trans (grown_drewN _ _ _) (grown_set _ _ _))⟩
            · have b2 : (c == 91) = false := by simpa using k2
              by_cases k3 : c = 125
              · have b3 : (c == 125) = true := by simpa using k3
                have hdc : deltaC c = -1 := by simp [deltaC, isOpen, isClose, k3]
                rw [hdc] at HDS HLP
                have hz : ((D - 1) == 0) = false := by have := HLP.out; rw [beq_eq_false_iff_ne]; omega
                clear k1 k2 k3 hdc
                go_wp2_with fail
                go_quiet (fail)
                go_wp2_with fail
                go_quiet (fail)
                go_wp2_with fail
                go_roundg (T.length - (j + 1))
                case measure => omega
                case rel => exact ⟨j + 1, P', by omega, hj1, by first | (rw [HDS.out]; done) | (rw [HDS.out]; go_num), HP', by show Scan _ _ _ _ _ _; rw [HPM.out]; exact (HR.out.drewN _).setI (P + 1) (by omega), grown_trans hgr (grown_trans (grown_drewN _ _ _) (grown_set _ _ _))⟩
              · have b3 : (c == 125) = false := by simpa using k3
                by_cases k4 : c = 93
                · have b4 : (c == 93) = true := by simpa using k4
                  have hdc : deltaC c = -1 := by simp [deltaC, isOpen, isClose, k4]
                  rw [hdc] at HDS HLP
                  have hz : ((D - 1) == 0) = false := by have := HLP.out; rw [beq_eq_false_iff_ne]; omega
                  clear k1 k2 k3 k4 hdc
                  go_wp2_with fail
                  go_quiet (fail)
                  go_wp2_with fail
                  go_quiet (fail)
                  go_wp2_with fail
                  go_roundg (T.length - (j + 1))
                  case measure => omega
                  case rel => exact ⟨j + 1, P', by omega, hj1, by first | (rw [HDS.out]; done) | (rw [HDS.out]; go_num), HP', by show Scan _ _ _ _ _ _; rw [HPM.out]; exact (HR.out.drewN _).setI (P + 1) (by omega), grown_trans hgr (grown_trans (grown_drewN _ _ _) (grown_set _ _ _))⟩
                · have b4 : (c == 93) = false := by simpa using k4
                  have hdc : deltaC c = 0 := by simp [deltaC, isOpen, isClose, k1, k2, k3, k4]
                  rw [hdc] at HDS HLP
                  have hz : (D == 0) = false := by have := HLP.out; rw [beq_eq_false_iff_ne]; omega
                  clear k1 k2 k3 k4 hdc
                  go_wp2_with fail
                  go_quiet (fail)
                  go_wp2_with fail
                  go_quiet (fail)
                  go_wp2_with fail
                  go_roundg (T.length - (j + 1))
                  case measure => omega
                  case rel => exact ⟨j + 1, P', by omega, hj1, by first | (rw [HDS.out]; done) | (rw [HDS.out]; go_num), HP', by show Scan _ _ _ _ _ _; rw [HPM.out]; exact (HR.out.drewN _).setI (P + 1) (by omega), grown_trans hgr (grown_trans (grown_drewN _ _ _) (grown_set _ _ _))⟩

end Go.Proofs.Qxb6001517a
