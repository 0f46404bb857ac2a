/-
  FnSplitJoinRoundTrip: the walk.
-/
import Derived.Test.Qxb6001354aJoinPlain
import Derived.Test.Qxb6001354aSplit
import Derived.Test.Qxb6001354aClone
import Derived.Lib.AppendStr
import Derived.Laws.BytesArg
import Derived.BigQuiet
import Derived.Deep.QuietTactic
namespace Go.Proofs.Qxb6001354a
open Go.RowKit

set_option maxHeartbeats 400000 in
/-- zzEqualStrings at two slices that hold the same. -/
theorem eq11 (a1 a2 : Option Addr) (n c1 c2 : Nat) (ss : List ByteArray) (b1 o1 b2 o2 : Nat) (w : World) (h1 : StrRow w a1 n ss b1 o1) (h2 : StrRow w a2 n ss b2 o2) (hn : n ≤ 1048576) :
    Calls Try.prog 11 #[.slice a1 n c1, .slice a2 n c2] w fun e w' => e = .returned (.bool true) ∧ ∃ q, w' = w.drewN q := by
  obtain ⟨_, ha1, hc1⟩ := h1
  obtain ⟨_, ha2, hc2⟩ := h2
  go_enter Try.func11, Try.ntmps11
  go_wp2
  go_loopw [5] (fun i wr => ∃ k : Nat, k ≤ n ∧ i = .int .i64 k ∧ ∃ q, wr = w.drewN q) (fun i _ => n - (intOf i).toNat)
  case atStart => exact ⟨0, Nat.zero_le _, rfl, 0, rfl⟩
  case round =>
    obtain ⟨k, hk, rfl, q, rfl⟩ := hrel
    by_cases hlt : k < n
    · have g1 := hc1 k hlt
      have g2 := hc2 k hlt
      obtain rfl := ha1 (by omega)
      obtain rfl := ha2 (by omega)
      obtain ⟨s, hs'⟩ : ∃ s, s = ss.getD k ByteArray.empty := ⟨_, rfl⟩
      rw [← hs'] at g1 g2
      have cz : (k : Int) < (n : Int) := by omega
      clear hs' hc1 hc2
      go_wp2
      go_quiet (fail)
      go_wp2
      go_roundw
      case rel => exact ⟨k + 1, by omega, by go_num, _, rfl⟩
      case measure => simp [intOf]; omega
    · go_wp2
      go_ret
      exact ⟨rfl, q, rfl⟩

/-- Bytes as cells. -/
def bcells (l : List UInt8) : List Value := l.map fun b => Value.int .u8 b.toNat
theorem bcells_append (a b : List UInt8) : bcells (a ++ b) = bcells a ++ bcells b := by simp [bcells]
theorem strCells_eq (s : ByteArray) : Lib.strCells s = bcells (dat s) := rfl

theorem Try.infoB : (Try.prog.info? 5).map (fun i => (i.zero, i.size, i.bytes)) = some (some (.int .u8 0), 1, 1) := by kernel_rfl

/-- What the checking loop asks of document d, in the walk's words. -/
def goodB (d : ByteArray) : Prop := good (dat d)

theorem goodB_mk {d : ByteArray} (h0 : 0 < d.size) (h1 : sp (d[0]'h0) = false) (h2 : sp (d[d.size - 1]'(by omega)) = false) (h3 : cnt d.data.toList = 0) : goodB d := by
  have hl : (dat d).length = d.size := rfl
  have e1 : dat d = d[0] :: (dat d).drop 1 := drop_cons d 0 h0
  have e2 : dat d = (dat d).take (d.size - 1) ++ [d[d.size - 1]] := by
    have h4 := List.take_append_drop (d.size - 1) (dat d)
    rw [show (dat d).drop (d.size - 1) = _ from drop_cons d (d.size - 1) (by omega)] at h4
    rw [List.drop_of_length_le (by show d.size ≤ _; omega)] at h4
    exact h4.symm
  refine ⟨fun e => by rw [e] at hl; simp at hl; omega, fun a r e => ?_, fun a r e => ?_, h3⟩
  · rw [e1, List.cons.injEq] at e
    rw [← e.1]; exact h1
  · rw [e2] at e
    have := List.append_inj_right' e rfl
    rw [List.cons.injEq] at this
    rw [← this.1]; exact h2

theorem owns_base_any {w : World} {base : Nat} {e : TypeId} {size : Nat} {v : Value} {n : Nat} {xs : List Value} (h : w.ownsRow base e size v n xs) : ∀ g, v.ownBlock = some g → base ≤ g := owns_base h

/-- The text that has been written when k documents are joined. -/
def joinTo (ss : List ByteArray) (k : Nat) : List UInt8 := joinL ((ss.take k).map dat)

theorem joinTo_zero (ss : List ByteArray) : joinTo ss 0 = [] := rfl
theorem joinTo_one (ss : List ByteArray) (h : 0 < ss.length) : joinTo ss 1 = dat (ss.getD 0 ByteArray.empty) := by
  cases ss with
  | nil => simp at h
  | cons a r => rfl
theorem joinTo_succ (ss : List ByteArray) (k : Nat) (h0 : 0 < k) (h : k < ss.length) : joinTo ss (k + 1) = joinTo ss k ++ (glue ++ dat (ss.getD k ByteArray.empty)) := by
  unfold joinTo
  rw [List.take_succ_eq_append_getElem h, List.map_append, List.map_singleton, joinL_snoc]
  · simp [h]
  · intro e
    have := congrArg List.length e
    rw [List.length_map, List.length_take, List.length_nil] at this
    omega
theorem tots_dat (ss : List ByteArray) : tots (ss.map dat) = tot ss := by
  unfold tots tot
  rw [List.map_map]
  rfl
theorem tot_take_le (ss : List ByteArray) (k : Nat) : tot (ss.take k) ≤ tot ss := by
  unfold tot
  conv => rhs; rw [← List.take_append_drop k ss]
  rw [List.map_append, List.sum_append]
  omega
theorem joinTo_length (ss : List ByteArray) (k : Nat) : (joinTo ss k).length ≤ tot ss + 5 * k := by
  have h := joinL_length ((ss.take k).map dat)
  rw [tots_dat, List.length_map, List.length_take] at h
  have := tot_take_le ss k
  unfold joinTo
  omega

theorem owns_bytes_append {w : World} {base : Nat} {v : Value} {l m r : List UInt8} (hr : r = l ++ m) (h : w.ownsRow base 5 1 v (l.length + m.length) (bcells l ++ bcells m)) : Hid (w.ownsRow base 5 1 v r.length (bcells r)) := by
  subst hr
  rw [← bcells_append] at h
  rw [List.length_append]
  exact h

/-- A slice of bytes of the call's own, not empty. -/
theorem bytes_of_owns {w : World} {base : Nat} {v : Value} {l : List UInt8} (h : w.ownsRow base 5 1 v l.length (bcells l)) (hne : l ≠ []) :
    ∃ g cap, v = .slice (some ⟨g, 0, none⟩) l.length cap ∧ ∀ i, i < l.length → w.cell? ⟨g, 0 + i, none⟩ = some (.int .u8 ((l.map fun b => (b.toNat : Int)).getD i 0)) := by
  rcases h.2 with ⟨_, h0⟩ | ⟨g, cap, cur, rfl, hb, hg, _⟩
  · exact absurd (List.length_eq_zero_iff.1 h0) hne
  · refine ⟨g, cap, rfl, fun i hi => ?_⟩
    rw [Nat.zero_add, h.cellAt i (by omega)]
    simp [bcells, hi]

theorem strOfNums_bytes (l : List UInt8) : dat (strOfNums (l.map fun b => (b.toNat : Int))) = l := by
  unfold dat strOfNums
  simp [List.map_map, Function.comp_def]

theorem zzSplit10j (t : ByteArray) (m : Int) (w : World) (ht : t.size ≤ 1048576) (hm : w.cell? ⟨0, 0, none⟩ = some (.int .i64 m)) (h0 : 0 < w.heap.size) :
    Calls Try.prog 10 #[.string t] w fun e w' => Below w.heap.size w w' ∧ RetDocs w.heap.size w' (splitT (dat t)) e := by
  have H13 : Hid (Calls Try.prog 13 #[.string t] w fun e w' => Below w.heap.size w w' ∧ RetDocs w.heap.size w' (splitT (dat t)) e) := split13 t m w ht hm h0
  clear hm h0
  go_enter Try.func10, Try.ntmps10
  go_wp2_with fail
  refine H13.out.mono ?_
  rintro e w1 ⟨hb1, v1, ds, rfl, hown1, hds⟩
  have HO : Hid (w1.ownsRow w.heap.size 9 1 v1 ds.length (ds.map Value.string)) := hown1
  have HD : Hid (ds.map dat = splitT (dat t)) := hds
  clear hown1 hds H13
  go_wp2
  go_ret
  exact ⟨hb1, _, _, rfl, HO.out, HD.out⟩

theorem map_dat_inj {a b : List ByteArray} (h : a.map dat = b.map dat) : a = b :=
  (List.map_inj_right (f := dat) fun _ _ e => Go.WideShapes.bytes_inj e).1 h

/-- Joined and split again: the documents. -/
theorem split_back {ss : List ByteArray} (h0 : 0 < ss.length) (hg : ∀ x, x < ss.length → goodB (ss.getD x ByteArray.empty)) (hp : dashL.isPrefixOf (dat (ss.getD 0 ByteArray.empty)) = false) : splitT (joinTo ss ss.length) = ss.map dat ∧ joinTo ss ss.length ≠ [] := by
  unfold joinTo
  rw [List.take_length]
  have hgood : ∀ x ∈ ss.map dat, good x := by
    intro x hx
    obtain ⟨s, hs, rfl⟩ := List.mem_map.1 hx
    obtain ⟨j, hj, rfl⟩ := List.getElem_of_mem hs
    have := hg j hj
    rwa [List.getD_eq_getElem?_getD, List.getElem?_eq_getElem hj, Option.getD_some] at this
  cases ss with
  | nil => simp at h0
  | cons a r =>
    exact ⟨splitT_join (dat a) (r.map dat) hgood hp, (joinL_ne (ds := (a :: r).map dat) (by simp) hgood).1⟩

set_option maxHeartbeats 4000000 in
theorem law3 (ao : Option Addr) (n cap : Nat) (ss : List ByteArray) (b off : Nat) (m : Int) (w : World) (h : StrRow w ao n ss b off) (hn : n ≤ maxLen) (hs : ∀ s ∈ ss, s.size ≤ maxLen) (hb : 0 < n → b < w.heap.size) (hm : w.cell? ⟨0, 0, none⟩ = some (.int .i64 m)) (h0 : 0 < w.heap.size) :
    Calls Try.prog 3 #[.slice ao n cap] w fun e w' => e = .returned (.bool true) ∧ Below w.heap.size w w' := by
  have hl := h.1
  subst hl
  obtain ⟨n, hln⟩ : ∃ n, n = ss.length := ⟨_, rfl⟩
  have HL : Hid (n = ss.length) := hln
  rw [← hln] at h hn hb ⊢
  clear hln
  have HM : Hid (w.cell? ⟨0, 0, none⟩ = some (.int .i64 m) ∧ 0 < w.heap.size) := ⟨hm, h0⟩
  have H5 : Hid (Calls Try.prog 5 #[.slice ao n cap] w fun e w' => w' = w ∧ RetBoolS (fun r => r = true → n + tot ss ≤ 1048576) e) := bytes5 ao n cap ss b off w h hn hs
  have HR : Hid (StrRow w ao n ss b off) := h
  have hao := h.2.1
  clear h hm h0
  go_enter Try.func3, Try.ntmps3
  go_wp2_with fail
  refine H5.out.mono ?_
  rintro e w' ⟨rfl, r, rfl, hr⟩
  cases r with
  | false =>
    go_wp2
    go_ret
    exact ⟨rfl, Below.refl _ _⟩
  | true =>
    have hbd := hr rfl
    clear hr H5 hs
    by_cases hbig : 65536 < n
    · go_wp2
      go_ret
      exact ⟨rfl, Below.refl _ _⟩
    · have hd1 : decide (65536 < (n : Int)) = false := decide_eq_false (by omega)
      go_wp2_with fail
      go_loop [3, 4] (fun z i => ∃ k : Nat, k ≤ n ∧ i = .int .i64 k ∧ z = .int .i64 ((16 * n + tot (ss.take k) : Nat) : Int) ∧ (0 < k → 16 * n + tot (ss.take k) ≤ 1048576)) (fun _ i => n - (intOf i).toNat)
      case atStart => exact ⟨0, Nat.zero_le _, rfl, by simp [tot], fun h => absurd h (Nat.lt_irrefl _)⟩
      case round =>
        obtain ⟨k, hk, rfl, rfl, hbk⟩ := hrel
        by_cases hlt : k < n
        · have hk2 : k < ss.length := by have := HL.out; omega
          have hcell := HR.out.2.2 k hlt
          have hsucc := tot_take_succ ss k hk2
          have hsz := size_le_tot ss k hk2
          have hT0 : tot (ss.take k) ≤ tot ss := by
            unfold tot
            conv => rhs; rw [← List.take_append_drop k ss]
            rw [List.map_append, List.sum_append]
            omega
          obtain rfl := hao (by omega)
          obtain ⟨s, hs'⟩ : ∃ s, s = ss.getD k ByteArray.empty := ⟨_, rfl⟩
          rw [← hs'] at hcell hsucc hsz
          obtain ⟨T, hT⟩ : ∃ T, T = tot (ss.take k) := ⟨_, rfl⟩
          rw [← hT] at hsucc hT0 ⊢
          have HS : Hid (tot (ss.take (k + 1)) = T + s.size) := hsucc
          clear hs' hT hsucc hbk hk2
          by_cases hov : 1048576 < 16 * n + T + s.size
          · go_wp2
            go_ret
            exact ⟨rfl, Below.refl _ _⟩
          · go_wp2
            go_round
            case rel => exact ⟨k + 1, by omega, by go_num, by rw [HS.out]; go_num, fun _ => by rw [HS.out]; omega⟩
            case measure => simp [intOf]; omega
        · have hkn : k = n := by omega
          subst hkn
          have hss : ss.take k = ss := List.take_of_length_le (by have := HL.out; omega)
          rw [hss] at hbk ⊢
          clear hss
          by_cases hn0 : k = 0
          · have hz : ((k : Int) == 0) = true := by rw [beq_iff_eq]; omega
            have HZ : Hid (k = 0) := hn0
            clear hn0
            go_wp2
            go_ret
            exact ⟨rfl, Below.refl _ _⟩
          · have hz : ((k : Int) == 0) = false := by rw [beq_eq_false_iff_ne]; omega
            have htot := hbk (by omega)
            have hao' : ao = some ⟨b, off, none⟩ := hao (by omega)
            subst hao'
            clear hbk hao
            go_wp2_with fail
            go_loop [5, 6] (fun i _ => ∃ j : Nat, j ≤ k ∧ i = .int .i64 j ∧ Hid (∀ x, x < j → goodB (ss.getD x ByteArray.empty))) (fun i _ => k - (intOf i).toNat)
            case atStart => exact ⟨0, Nat.zero_le _, rfl, fun x hx => absurd hx (Nat.not_lt_zero _)⟩
            case round =>
              obtain ⟨j, hj, rfl, HG⟩ := hrel
              by_cases hjk : j < k
              · have hj2 : j < ss.length := by have := HL.out; omega
                have hcell := HR.out.2.2 j hjk
                have hsz := size_le_tot ss j hj2
                have HN : Hid (goodB (ss.getD j ByteArray.empty) → ∀ x, x < j + 1 → goodB (ss.getD x ByteArray.empty)) := fun hg x hx => by
                  by_cases e : x = j
                  · subst e; exact hg
                  · exact HG.out x (by omega)
                obtain ⟨d, hd⟩ : ∃ d, d = ss.getD j ByteArray.empty := ⟨_, rfl⟩
                rw [← hd] at hcell hsz HN
                clear hd hj2
                have hsz' : d.size ≤ 1048576 := by omega
                by_cases hd0 : 0 < d.size
                · have hz1 : ((d.size : Int) == 0) = false := by rw [beq_eq_false_iff_ne]; omega
                  have hlast : d.size - 1 < d.size := by omega
                  cases hs0 : sp (d[0]'hd0) with
                  | true =>
                    go_wp2_with (first | (go_at_call 7; refine (count7 _ _ hsz').mono ?_; rintro x9 w9 ⟨rfl, rfl⟩) | (go_at_call 6; refine (zzSpace6 _ _).mono ?_; rintro x9 w9 ⟨rfl, rfl⟩))
                    go_ret
                    exact ⟨rfl, Below.refl _ _⟩
                  | false =>
                    cases hs1 : sp (d[d.size - 1]'hlast) with
                    | true =>
                      go_wp2_with (first | (go_at_call 7; refine (count7 _ _ hsz').mono ?_; rintro x9 w9 ⟨rfl, rfl⟩) | (go_at_call 6; refine (zzSpace6 _ _).mono ?_; rintro x9 w9 ⟨rfl, rfl⟩))
                      go_ret
                      exact ⟨rfl, Below.refl _ _⟩
                    | false =>
                      by_cases hc0 : 0 < cnt d.data.toList
                      · go_wp2_with (first | (go_at_call 7; refine (count7 _ _ hsz').mono ?_; rintro x9 w9 ⟨rfl, rfl⟩) | (go_at_call 6; refine (zzSpace6 _ _).mono ?_; rintro x9 w9 ⟨rfl, rfl⟩))
                        go_ret
                        exact ⟨rfl, Below.refl _ _⟩
                      · have HGd : Hid (∀ x, x < j + 1 → goodB (ss.getD x ByteArray.empty)) := HN.out (goodB_mk hd0 hs0 hs1 (by omega))
                        clear HN HG
                        go_wp2_with (first | (go_at_call 7; refine (count7 _ _ hsz').mono ?_; rintro x9 w9 ⟨rfl, rfl⟩) | (go_at_call 6; refine (zzSpace6 _ _).mono ?_; rintro x9 w9 ⟨rfl, rfl⟩))
                        go_round
                        case rel => exact ⟨j + 1, by omega, by go_num, HGd⟩
                        case measure => simp [intOf]; omega
                · have hz1 : ((d.size : Int) == 0) = true := by rw [beq_iff_eq]; omega
                  go_wp2
                  go_ret
                  exact ⟨rfl, Below.refl _ _⟩
              · have hjk' : j = k := by omega
                subst hjk'
                have hcell := HR.out.2.2 0 (by omega)
                have hsz := size_le_tot ss 0 (by have := HL.out; omega)
                obtain ⟨d, hd⟩ : ∃ d, d = ss.getD 0 ByteArray.empty := ⟨_, rfl⟩
                rw [← hd, Nat.add_zero] at hcell
                rw [← hd] at hsz
                have HD : Hid (d = ss.getD 0 ByteArray.empty) := hd
                clear hd
                have hsz' : d.size ≤ 1048576 := by omega
                go_wp2_with fail
                refine (pfx8 d _ hsz').mono ?_
                rintro x9 w9 ⟨rfl, rfl⟩
                cases hp : dashL.isPrefixOf d.data.toList with
                | true =>
                  go_wp2
                  go_ret
                  exact ⟨rfl, Below.refl _ _⟩
                | false =>
                  go_wp2_with fail
                  refine (clone9 _ j cap ss b off w9 HR.out (by omega) hb).mono ?_
                  rintro e w1 ⟨hb1, v1, rfl, hown1⟩
                  obtain ⟨ao1, cap1, b1, rfl, hrow1, hbb1⟩ := strRow_of_owns hown1
                  rw [← HL.out] at hrow1 hbb1 ⊢
                  obtain rfl := hrow1.2.1 (by omega)
                  have HR1 : Hid (StrRow w1 (some ⟨b1, 0, none⟩) j ss b1 0) := hrow1
                  have hlt1 := (hbb1 (by omega)).2
                  obtain ⟨i5, hi, hz0, hz1, hz2⟩ := info_parts Try.infoB
                  clear hown1 hrow1 hbb1 hcell hsz
                  go_wp2_with (at_make; refine wpList_make_own _ rfl _ _ 28 rfl w1.heap.size 5 i5 (.int .u8 0) 1 Try.underlying28 hi hz0 hz1 .i64 .i64 _ (16 * j + tot ss + 5 * j) rfl rfl (by first | omega | simp) ?m2 ?m3 (Nat.le_refl _) ?_)
                  case m2 => rw [hz2]; omega
                  case m3 => unfold maxLen; omega
                  intro w2 hown2 hgrow2
                  have HO2 : Hid (w2.ownsRow w1.heap.size 5 1 (.slice (some ⟨w1.heap.size, 0, none⟩) 0 (16 * j + tot ss + 5 * j)) (joinTo ss 0).length (bcells (joinTo ss 0))) := hown2
                  have hb2 : Below w1.heap.size w1 w2 := (Below.refl _ _).grown hgrow2 (Nat.le_refl _) (fun g hg => by cases hg)
                  clear hown2 hgrow2
                  go_wp2_with fail
                  go_loopw [7, 8] (fun v i wr => ∃ x : Nat, x ≤ j ∧ i = .int .i64 x ∧ Hid (wr.ownsRow w1.heap.size 5 1 v (joinTo ss x).length (bcells (joinTo ss x))) ∧ Below w1.heap.size w1 wr) (fun _ i _ => j - (intOf i).toNat)
                  case atStart => exact ⟨0, Nat.zero_le _, rfl, HO2, hb2⟩
                  case round =>
                    obtain ⟨x, hx, rfl, HO, hbel⟩ := hrel
                    by_cases hxj : x < j
                    · have hcell : wr.cell? ⟨b1, x, none⟩ = some (.string (ss.getD x ByteArray.empty)) := by
                        have := (hbel.cell (p := ⟨b1, 0 + x, none⟩) hlt1).trans (HR1.out.2.2 x hxj)
                        rwa [Nat.zero_add] at this
                      have hx2 : x < ss.length := by have := HL.out; omega
                      have hszx := size_le_tot ss x hx2
                      have hlx := joinTo_length ss x
                      have HJ : Hid (if x = 0 then joinTo ss (x + 1) = dat (ss.getD x ByteArray.empty) else joinTo ss (x + 1) = joinTo ss x ++ (glue ++ dat (ss.getD x ByteArray.empty))) := by
                        show ite _ _ _
                        by_cases e : x = 0
                        · rw [if_pos e]; subst e; exact joinTo_one ss hx2
                        · rw [if_neg e]; exact joinTo_succ ss x (by omega) hx2
                      obtain ⟨dx, hdx⟩ : ∃ dx, dx = ss.getD x ByteArray.empty := ⟨_, rfl⟩
                      rw [← hdx] at hcell hszx HJ
                      have hld : (dat dx).length = dx.size := rfl
                      have HLd : Hid ((dat dx).length = dx.size) := hld
                      clear hdx hld hx2
                      by_cases hx0 : x = 0
                      · have HJ1 : Hid (joinTo ss (x + 1) = joinTo ss x ++ dat dx) := by
                          have := HJ.out
                          rw [if_pos hx0] at this
                          show _ = _
                          rw [this, hx0, joinTo_zero]; rfl
                        have hx0' : ¬ 0 < x := by omega
                        clear HJ hx0
                        obtain ⟨lx, hlx'⟩ : ∃ lx, lx = joinTo ss x := ⟨_, rfl⟩
                        rw [← hlx'] at HO HJ1 hlx
                        clear hlx'
                        go_wp2_with (at_builtin; refine Lib.wpList_append_own_string _ rfl (.tmp 90) (.tmp 94) 28 9 rfl w1.heap.size 5 i5 Try.underlying28 Try.underlying9 hi hz0 hz1 hz2 _ _ _ rfl HO.out dx rfl ?p1 ?p2 ?p3 ?_)
                        case p1 => unfold maxLen; omega
                        case p2 => omega
                        case p3 => exact hbel.size
                        intro v3 w3 hown3 hgrow3 _
                        have hb3 : Below w1.heap.size w1 w3 := hbel.grown hgrow3 hbel.size (owns_base HO.out)
                        have HO3 : Hid (w3.ownsRow w1.heap.size 5 1 v3 (joinTo ss (x + 1)).length (bcells (joinTo ss (x + 1)))) := owns_bytes_append HJ1.out hown3
                        clear hown3 hgrow3
                        go_wp2
                        go_roundw
                        case rel => exact ⟨x + 1, by omega, by go_num, HO3, hb3⟩
                        case measure => simp [intOf]; omega
                      · have HJ1 : Hid (joinTo ss (x + 1) = (joinTo ss x ++ glue) ++ dat dx) := by
                          have := HJ.out
                          rw [if_neg hx0] at this
                          show _ = _
                          rw [this, List.append_assoc]
                        have hx0' : 0 < x := by omega
                        clear HJ hx0
                        obtain ⟨lx, hlx'⟩ : ∃ lx, lx = joinTo ss x := ⟨_, rfl⟩
                        rw [← hlx'] at HO HJ1 hlx
                        clear hlx'
                        go_wp2_with (at_builtin; refine Lib.wpList_append_own_string _ rfl (.tmp 88) _ 28 9 rfl w1.heap.size 5 i5 Try.underlying28 Try.underlying9 hi hz0 hz1 hz2 _ _ _ rfl HO.out ⟨#[10, 45, 45, 45, 10]⟩ rfl ?q1 ?q2 ?q3 ?_)
                        case q1 => show _ + 5 ≤ _; unfold maxLen; omega
                        case q2 => show _ + 5 ≤ _; omega
                        case q3 => exact hbel.size
                        intro v3 w3 hown3 hgrow3 _
                        have hb3 : Below w1.heap.size w1 w3 := hbel.grown hgrow3 hbel.size (owns_base HO.out)
                        have HO3 : Hid (w3.ownsRow w1.heap.size 5 1 v3 (lx ++ glue).length (bcells (lx ++ glue))) := owns_bytes_append (m := glue) rfl hown3
                        have hlg : (lx ++ glue).length = lx.length + 5 := by rw [List.length_append]; rfl
                        obtain ⟨lg, hlg'⟩ : ∃ lg, lg = lx ++ glue := ⟨_, rfl⟩
                        rw [← hlg'] at HO3 HJ1 hlg
                        have hlg2 : lg.length ≤ lx.length + 5 := by omega
                        have hcell3 : w3.cell? ⟨b1, x, none⟩ = some (.string dx) := by
                          rw [← hcell]
                          exact (hb3.cell (p := ⟨b1, x, none⟩) hlt1).trans (hbel.cell (p := ⟨b1, x, none⟩) hlt1).symm
                        clear hown3 hgrow3 hlg' hlg
                        go_wp2_with (at_builtin; refine Lib.wpList_append_own_string _ rfl (.tmp 90) (.tmp 94) 28 9 rfl w1.heap.size 5 i5 Try.underlying28 Try.underlying9 hi hz0 hz1 hz2 _ _ _ rfl HO3.out dx rfl ?r1 ?r2 ?r3 ?_)
                        case r1 => unfold maxLen; omega
                        case r2 => omega
                        case r3 => exact hb3.size
                        intro v4 w4 hown4 hgrow4 _
                        have hb4 : Below w1.heap.size w1 w4 := hb3.grown hgrow4 hb3.size (owns_base HO3.out)
                        have HO4 : Hid (w4.ownsRow w1.heap.size 5 1 v4 (joinTo ss (x + 1)).length (bcells (joinTo ss (x + 1)))) := owns_bytes_append HJ1.out hown4
                        clear hown4 hgrow4
                        go_wp2
                        go_roundw
                        case rel => exact ⟨x + 1, by omega, by go_num, HO4, hb4⟩
                        case measure => simp [intOf]; omega
                    · have hxj' : x = j := by omega
                      subst hxj'
                      have hsb := split_back (ss := ss) (by have := HL.out; omega) (fun y hy => HG.out y (by have := HL.out; omega)) (by rw [← HD.out]; exact hp)
                      rw [← HL.out] at hsb
                      have hlx := joinTo_length ss x
                      obtain ⟨lx, hlx'⟩ : ∃ lx, lx = joinTo ss x := ⟨_, rfl⟩
                      rw [← hlx'] at HO hlx hsb
                      obtain ⟨g, capg, hv, hcg⟩ := bytes_of_owns HO.out hsb.2
                      rw [hv]
                      have hconv := run_convert_bytes_arg (P := Try.prog) wr 28 5 Try.underlying28 Try.underlying5 g 0 lx.length capg (lx.map fun b => (b.toNat : Int)) (by simp) hcg 9 Try.underlying9
                      obtain ⟨t, ht⟩ : ∃ t, t = strOfNums (lx.map fun b => (b.toNat : Int)) := ⟨_, rfl⟩
                      rw [← ht] at hconv
                      have hdt : dat t = lx := by rw [ht]; exact strOfNums_bytes lx
                      have hts : t.size ≤ 1048576 := by
                        have : (dat t).length = t.size := rfl
                        rw [hdt] at this
                        omega
                      have HSB : Hid (splitT (dat t) = ss.map dat) := by show _ = _; rw [hdt]; exact hsb.1
                      have hm1 : wr.cell? ⟨0, 0, none⟩ = some (.int .i64 m) := (hbel.cell (p := ⟨0, 0, none⟩) (Nat.lt_of_lt_of_le HM.out.2 hb1.size)).trans ((hb1.cell (p := ⟨0, 0, none⟩) HM.out.2).trans HM.out.1)
                      have HZ : Hid (Calls Try.prog 10 #[.string t] wr fun e w' => Below wr.heap.size wr w' ∧ RetDocs wr.heap.size w' (splitT (dat t)) e) := zzSplit10j t m wr hts hm1 (by have := hbel.size; have := hb1.size; have := HM.out.2; omega)
                      clear hdt ht hsb hlx' hcg hm1 HO HO2 hb2 hlx hv
                      go_wp2_with fail
                      refine HZ.out.mono ?_
                      rintro e w5 ⟨hb5, v5, ds, rfl, hown5, hds⟩
                      rw [HSB.out] at hds
                      obtain rfl := map_dat_inj hds
                      obtain ⟨ao5, cap5, b5, rfl, hrow5, _⟩ := strRow_of_owns hown5
                      rw [← HL.out] at hrow5 ⊢
                      have hb15 : Below w1.heap.size w1 w5 := hbel.trans (hb5.mono hbel.size)
                      have hrow15 : StrRow w5 (some ⟨b1, 0, none⟩) x ds b1 0 := ⟨HR1.out.1, HR1.out.2.1, fun i hi => (hb15.cell (p := ⟨b1, 0 + i, none⟩) hlt1).trans (HR1.out.2.2 i hi)⟩
                      have HEQ : Hid (Calls Try.prog 11 #[.slice ao5 x cap5, .slice (some ⟨b1, 0, none⟩) x cap1] w5 fun e w' => e = .returned (.bool true) ∧ ∃ q, w' = w5.drewN q) := eq11 _ _ x cap5 cap1 ds b5 0 b1 0 w5 hrow5 hrow15 (by omega)
                      have HB5 : Hid (Below w9.heap.size w9 w5) := hb1.trans (hb15.mono hb1.size)
                      clear hown5 hds hrow5 hrow15 HZ hb15 hb5
                      go_wp2_with fail
                      refine HEQ.out.mono ?_
                      rintro e w6 ⟨rfl, q6, rfl⟩
                      go_wp2
                      go_ret
                      exact ⟨rfl, below_drewN HB5.out _⟩

end Go.Proofs.Qxb6001354a
