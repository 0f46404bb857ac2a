/-
  englishMessages: the walk.
-/
import Derived.Test.Qxb6001160aDel
namespace Go.Proofs.Qxb6001160a
open Go.RowKit

theorem ownsRow_drewN {w : World} {base : Nat} {e : TypeId} {size : Nat} {v : Value} {n : Nat} {xs : List Value} (h : w.ownsRow base e size v n xs) (q : Nat) : (w.drewN q).ownsRow base e size v n xs := h

theorem owns_base {w : World} {base : Nat} {e : TypeId} {size : Nat} {v : Value} {n : Nat} {xs : List Value} (h : w.ownsRow base e size v n xs) : ∀ g, v.ownBlock = some g → base ≤ g := by
  intro g hg
  rcases h.2 with ⟨rfl, _⟩ | ⟨g', _, _, rfl, hb, _⟩
  · cases hg
  · cases hg; exact hb

theorem round_eq {ss : List ByteArray} {k : Nat} {s : ByteArray} (hsn : ss.take (k + 1) = ss.take k ++ [s]) :
    allOf (ss.take (k + 1)) = allStep (allOf (ss.take k)) s ∧ keptOf (ss.take (k + 1)) = if keepB s then keptOf (ss.take k) ++ [s] else keptOf (ss.take k) := by
  rw [hsn, allOf_snoc, keptOf_snoc]
  exact ⟨rfl, rfl⟩

theorem round_all {ss : List ByteArray} {k : Nat} {s : ByteArray} (hsn : ss.take (k + 1) = ss.take k ++ [s]) (h1 : ((nameOf s).toList == [76, 67, 95, 65, 76, 76]) = true) :
    Hid (allOf (ss.take (k + 1)) = valOf s ∧ keptOf (ss.take (k + 1)) = keptOf (ss.take k)) := by
  obtain ⟨a, b⟩ := round_eq hsn
  have e1 : allStep (allOf (ss.take k)) s = valOf s := by unfold allStep sAll; rw [if_pos h1]
  have e2 : keepB s = false := by unfold keepB sAll; rw [h1]; rfl
  rw [e1] at a
  rw [e2] at b
  exact ⟨a, b⟩

theorem round_drop {ss : List ByteArray} {k : Nat} {s : ByteArray} (hsn : ss.take (k + 1) = ss.take k ++ [s]) (h1 : ((nameOf s).toList == [76, 67, 95, 65, 76, 76]) = false)
    (h2 : ((nameOf s).toList == [76, 67, 95, 77, 69, 83, 83, 65, 71, 69, 83]) = true ∨ ((nameOf s).toList == [76, 65, 78, 71, 85, 65, 71, 69]) = true) :
    Hid (allOf (ss.take (k + 1)) = allOf (ss.take k) ∧ keptOf (ss.take (k + 1)) = keptOf (ss.take k)) := by
  obtain ⟨a, b⟩ := round_eq hsn
  have e1 : allStep (allOf (ss.take k)) s = allOf (ss.take k) := by unfold allStep sAll; rw [if_neg (by rw [h1]; decide)]
  have e2 : keepB s = false := by
    unfold keepB sMsg sLge
    rcases h2 with h2 | h2 <;> simp [h2]
  rw [e1] at a
  rw [e2] at b
  exact ⟨a, b⟩

theorem round_keep {ss : List ByteArray} {k : Nat} {s : ByteArray} (hsn : ss.take (k + 1) = ss.take k ++ [s]) (h1 : ((nameOf s).toList == [76, 67, 95, 65, 76, 76]) = false)
    (h2 : ((nameOf s).toList == [76, 67, 95, 77, 69, 83, 83, 65, 71, 69, 83]) = false) (h3 : ((nameOf s).toList == [76, 65, 78, 71, 85, 65, 71, 69]) = false) :
    Hid (allOf (ss.take (k + 1)) = allOf (ss.take k) ∧ keptOf (ss.take (k + 1)) = keptOf (ss.take k) ++ [s]) := by
  obtain ⟨a, b⟩ := round_eq hsn
  have e1 : allStep (allOf (ss.take k)) s = allOf (ss.take k) := by unfold allStep sAll; rw [if_neg (by rw [h1]; decide)]
  have e2 : keepB s = true := by unfold keepB sAll sMsg sLge; rw [h1, h2, h3]; rfl
  rw [e1] at a
  rw [e2] at b
  exact ⟨a, b⟩

theorem owns_congr {w : World} {base : Nat} {v : Value} {xs ys : List ByteArray} (e : ys = xs) (h : w.ownsRow base 9 1 v xs.length (xs.map Value.string)) : Hid (w.ownsRow base 9 1 v ys.length (ys.map Value.string)) := by
  subst e; exact h
theorem owns_snoc {w : World} {base : Nat} {v : Value} {xs ys : List ByteArray} {s : ByteArray} (e : ys = xs ++ [s]) (h : w.ownsRow base 9 1 v (xs.length + 1) (xs.map Value.string ++ [Value.string s])) : Hid (w.ownsRow base 9 1 v ys.length (ys.map Value.string)) := by
  subst e; simpa [Hid] using h

set_option maxHeartbeats 400000 in
theorem em41 (ao : Option Addr) (n cap : Nat) (ss : List ByteArray) (b off : Nat) (w : World) (h : StrRow w ao n ss b off) (hn : n + tot ss ≤ 1048576) (hb : 0 < n → b < w.heap.size) :
    Calls Try.prog 41 #[.slice ao n cap] w fun e w' => Below w.heap.size w w' ∧ RetStrs w.heap.size w' (emOf ss) e := by
  obtain ⟨hl, hao, hc⟩ := h
  obtain ⟨i9, hi, hz0, hz1, hz2⟩ := info_parts Try.info9
  go_enter Try.func41, Try.ntmps41
  go_wp2
  go_loopw [3, 4, 12] (fun v a i wr => ∃ k : Nat, k ≤ n ∧ i = .int .i64 k ∧ a = .string (allOf (ss.take k)) ∧ Hid (wr.ownsRow w.heap.size 9 1 v (keptOf (ss.take k)).length ((keptOf (ss.take k)).map Value.string)) ∧ Below w.heap.size w wr)
    (fun _ _ i _ => n - (intOf i).toNat)
  case atStart => exact ⟨0, Nat.zero_le _, rfl, rfl, World.ownsRow_nil _ _ _ _, Below.refl _ _⟩
  case round =>
    obtain ⟨k, hk, rfl, rfl, HO, hbel⟩ := hrel
    by_cases hlt : k < n
    · have hcell : wr.cell? ⟨b, off + k, none⟩ = some (.string (ss.getD k ByteArray.empty)) := (hbel.cell (p := ⟨b, off + k, none⟩) (hb (by omega))).trans (hc k hlt)
      have hsz := size_le_tot ss k (by omega)
      have hsn := take_snoc_str ss k (by omega)
      have hkl := keptOf_length (ss.take k)
      rw [List.length_take] at hkl
      obtain rfl := hao (by omega)
      obtain ⟨s, hs'⟩ : ∃ s, s = ss.getD k ByteArray.empty := ⟨_, rfl⟩
      rw [← hs'] at hcell hsz hsn
      have hsz' : s.size ≤ maxLen := by unfold maxLen; omega
      have HSN : Hid (ss.take (k + 1) = ss.take k ++ [s]) := hsn
      clear hs' hsn
      cases h1 : (nameOf s).toList == [76, 67, 95, 65, 76, 76] with
      | true =>
        have R := round_all HSN.out h1
        go_wp2_with (go_at_call 47; refine (cut47 _ _ hsz').mono ?_; rintro e w' ⟨rfl, q, rfl⟩)
        go_roundw
        case rel => exact ⟨k + 1, by omega, by go_num, by rw [R.out.1], owns_congr R.out.2 (ownsRow_drewN HO.out _), below_drewN hbel _⟩
        case measure => simp [intOf]; omega
      | false =>
        cases h2 : (nameOf s).toList == [76, 67, 95, 77, 69, 83, 83, 65, 71, 69, 83] with
        | true =>
          have R := round_drop HSN.out h1 (.inl h2)
          go_wp2_with (go_at_call 47; refine (cut47 _ _ hsz').mono ?_; rintro e w' ⟨rfl, q, rfl⟩)
          go_roundw
          case rel => exact ⟨k + 1, by omega, by go_num, by rw [R.out.1], owns_congr R.out.2 (ownsRow_drewN HO.out _), below_drewN hbel _⟩
          case measure => simp [intOf]; omega
        | false =>
          cases h3 : (nameOf s).toList == [76, 65, 78, 71, 85, 65, 71, 69] with
          | true =>
            have R := round_drop HSN.out h1 (.inr h3)
            go_wp2_with (go_at_call 47; refine (cut47 _ _ hsz').mono ?_; rintro e w' ⟨rfl, q, rfl⟩)
            go_roundw
            case rel => exact ⟨k + 1, by omega, by go_num, by rw [R.out.1], owns_congr R.out.2 (ownsRow_drewN HO.out _), below_drewN hbel _⟩
            case measure => simp [intOf]; omega
          | false =>
            have R := round_keep HSN.out h1 h2 h3
            go_wp2_with (first | (go_at_call 47; refine (cut47 _ _ hsz').mono ?_; rintro e w' ⟨rfl, q, rfl⟩) | (at_builtin; refine wpList_append_own _ rfl _ _ 22 rfl w.heap.size 9 i9 (.string ByteArray.empty) 1 16 Try.underlying22 hi hz0 hz1 hz2 rfl (by decide) _ _ _ rfl ((ownsRow_drewN HO.out _).alloc _) ⟨wr.heap.size, 0, none⟩ 1 1 [.string s] rfl rfl ?c1 ?c2 ?c3 ?c4 ?c5 ?_))
            case c1 => exact cell_one_new _ _ _
            case c2 => intro u hu; simp at hu; subst hu; rfl
            case c3 => unfold maxLen; omega
            case c4 => omega
            case c5 => have := hbel.size; simp; omega
            · intro v' w1 hown' hgrow _
              have hb1 : Below w.heap.size w w1 := ((below_drewN hbel q).alloc (by have := hbel.size; simpa using this) _).grown hgrow (by have := hbel.size; simp; omega) (owns_base HO.out)
              have HO' : Hid _ := hown'
              clear hown' hgrow
              go_wp2
              go_roundw
              case rel => exact ⟨k + 1, by omega, by go_num, by rw [R.out.1], owns_snoc R.out.2 HO'.out, hb1⟩
              case measure => simp [intOf]; omega
    · have hk' : k = n := by omega
      subst hk'
      rw [← hl, List.take_length] at HO ⊢
      obtain ⟨A, hA⟩ : ∃ A, A = allOf ss := ⟨_, rfl⟩
      rw [← hA]
      have HA : Hid (A = allOf ss) := hA
      clear hA
      have hAs : A.size ≤ 1048576 := by
        rw [HA.out]
        refine allOf_size _ _ fun s hs => ?_
        obtain ⟨j, hj, rfl⟩ := List.getElem_of_mem hs
        have := size_le_tot ss j hj
        rw [List.getD_eq_getElem?_getD, List.getElem?_eq_getElem hj, Option.getD_some] at this
        omega
      have hkl := keptOf_length ss
      have hown := HO.out
      obtain ⟨ks, hks⟩ : ∃ ks, ks = keptOf ss := ⟨_, rfl⟩
      rw [← hks] at hown hkl
      have HKs : Hid (ks = keptOf ss) := hks
      have HO : Hid (wr.ownsRow w.heap.size 9 1 _ ks.length (ks.map Value.string)) := hown
      clear hown hks hc hao
      cases hE : A.toList.isEmpty with
      | true =>
        have HM : Hid (midOf ss = ks) := by show midOf ss = ks; unfold midOf; rw [← HA.out, hE, ← HKs.out]; rfl
        go_wp2_with (at_builtin; refine wpList_append_own _ rfl _ _ 22 rfl w.heap.size 9 i9 (.string ByteArray.empty) 1 16 Try.underlying22 hi hz0 hz1 hz2 rfl (by decide) _ _ _ rfl (HO.out.alloc _) ⟨wr.heap.size, 0, none⟩ 1 1 [.string bMsgC] rfl rfl ?d1 ?d2 ?d3 ?d4 ?d5 ?_)
        case d1 => exact cell_one_new _ _ _
        case d2 => intro u hu; simp at hu; subst hu; rfl
        case d3 => unfold maxLen; omega
        case d4 => omega
        case d5 => have := hbel.size; simp; omega
        · intro v' w1 hown' hgrow _
          have hb1 : Below w.heap.size w w1 := (hbel.alloc (by have := hbel.size; simpa using this) _).grown hgrow (by have := hbel.size; simp; omega) (owns_base HO.out)
          have HO' : Hid _ := hown'
          clear hown' hgrow
          go_wp2
          go_ret
          exact ⟨hb1, _, rfl, (owns_snoc (by unfold emOf; rw [HM.out]) HO'.out).out⟩
      | false =>
        have HM : Hid (midOf ss = (ks.filter fun s => !delB s) ++ [bLangE ++ A]) := by show midOf ss = _; unfold midOf; rw [← HA.out, hE, ← HKs.out]; rfl
        have hks : ∀ s ∈ ks, s.size ≤ maxLen := fun s hs => by
          rw [HKs.out] at hs
          have hs := (List.mem_filter.1 hs).1
          obtain ⟨j, hj, rfl⟩ := List.getElem_of_mem hs
          have := size_le_tot ss j hj
          rw [List.getD_eq_getElem?_getD, List.getElem?_eq_getElem hj, Option.getD_some] at this
          unfold maxLen; omega
        have hfl : (ks.filter fun s => !delB s).length ≤ ks.length := List.length_filter_le _ _
        have hdel := del48 _ ks w.heap.size wr HO.out hks
        clear hks
        have hadd : ∀ wx, (Op.stringOp .add ⟨#[76, 65, 78, 71, 61]⟩ A).run Try.prog wx = .ok (.string (bLangE ++ A)) wx := fun wx => run_string_add_sum wx bLangE A (by have : bLangE.size = 5 := rfl; omega)
        obtain ⟨ds, hds⟩ : ∃ ds, ds = ks.filter fun s => !delB s := ⟨_, rfl⟩
        rw [← hds] at hfl hdel HM
        have HDel : Hid (Calls Try.prog 48 _ wr fun e w' => Below w.heap.size wr w' ∧ RetStrs w.heap.size w' ds e) := hdel
        clear hds hdel
        go_wp2_with fail
        refine HDel.out.mono ?_
        rintro e w1 ⟨hb1, v1, rfl, hown1⟩
        have HO1 : Hid (w1.ownsRow w.heap.size 9 1 v1 ds.length (ds.map Value.string)) := hown1
        have hbel1 := hbel.trans hb1
        clear hown1 hb1 HDel
        go_wp2_with (at_builtin; refine wpList_append_own _ rfl (.tmp 38) (.tmp 41) 22 rfl w.heap.size 9 i9 (.string ByteArray.empty) 1 16 Try.underlying22 hi hz0 hz1 hz2 rfl (by decide) _ _ _ rfl (HO1.out.alloc _) ⟨w1.heap.size, 0, none⟩ 1 1 [.string (bLangE ++ A)] rfl rfl ?e1 ?e2 ?e3 ?e4 ?e5 ?_)
        case e1 => exact cell_one_new _ _ _
        case e2 => intro u hu; simp at hu; subst hu; rfl
        case e3 => unfold maxLen; omega
        case e4 => omega
        case e5 => have := hbel1.size; simp; omega
        · intro v2 w2 hown2 hgrow _
          have hbel2 : Below w.heap.size w w2 := (hbel1.alloc (by have := hbel1.size; simpa using this) _).grown hgrow (by have := hbel1.size; simp; omega) (owns_base HO1.out)
          have hown2' := owns_snoc (ys := ds ++ [bLangE ++ A]) rfl hown2
          have HO2 : Hid (w2.ownsRow w.heap.size 9 1 v2 (ds ++ [bLangE ++ A]).length ((ds ++ [bLangE ++ A]).map Value.string)) := hown2'
          have hl2 : (ds ++ [bLangE ++ A]).length = ds.length + 1 := by simp
          obtain ⟨ms, hms⟩ : ∃ ms, ms = ds ++ [bLangE ++ A] := ⟨_, rfl⟩
          rw [← hms] at HO2 HM hl2
          have hl3 : ms.length ≤ ds.length + 1 := by omega
          clear hown2 hown2' hgrow hms hl2 hadd
          go_wp2_with (at_builtin; refine wpList_append_own _ rfl _ _ 22 rfl w.heap.size 9 i9 (.string ByteArray.empty) 1 16 Try.underlying22 hi hz0 hz1 hz2 rfl (by decide) _ _ _ rfl (HO2.out.alloc _) ⟨w2.heap.size, 0, none⟩ 1 1 [.string bMsgC] rfl rfl ?f1 ?f2 ?f3 ?f4 ?f5 ?_)
          case f1 => exact cell_one_new _ _ _
          case f2 => intro u hu; simp at hu; subst hu; rfl
          case f3 => unfold maxLen; omega
          case f4 => omega
          case f5 => have := hbel2.size; simp; omega
          · intro v' w3 hown' hgrow _
            have hb3 : Below w.heap.size w w3 := (hbel2.alloc (by have := hbel2.size; simpa using this) _).grown hgrow (by have := hbel2.size; simp; omega) (owns_base HO2.out)
            have HO' : Hid _ := hown'
            clear hown' hgrow
            go_wp2
            go_ret
            exact ⟨hb3, _, rfl, (owns_snoc (by unfold emOf; rw [HM.out]) HO'.out).out⟩

end Go.Proofs.Qxb6001160a
