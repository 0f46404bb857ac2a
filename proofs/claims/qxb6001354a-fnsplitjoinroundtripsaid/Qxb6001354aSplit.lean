/-
  split: the walk.
-/
import Derived.Test.Qxb6001354aSmall
import Derived.Lib.IndexBytes
namespace Go.Proofs.Qxb6001354a
open Go.RowKit

theorem Try.info9 : (Try.prog.info? 9).map (fun i => (i.zero, i.size, i.bytes)) = some (some (.string ByteArray.empty), 1, 16) := by kernel_rfl

def dat (s : ByteArray) : List UInt8 := s.data.toList

/-- It returns a slice of the call's own that holds the pieces D. -/
def RetDocs (base : Nat) (w' : World) (D : List (List UInt8)) (e : Ending) : Prop := ∃ v, ∃ ds : List ByteArray, e = .returned v ∧ w'.ownsRow base 9 1 v ds.length (ds.map Value.string) ∧ ds.map dat = D

theorem owns_base {w : World} {base : Nat} {e : TypeId} {size : Nat} {v : Value} {n : Nat} {xs : List Value} (h : w.ownsRow base e size v n xs) : ∀ g, v.ownBlock = some g → base ≤ g := by
  intro g hg
  rcases h.2 with ⟨rfl, _⟩ | ⟨g', _, _, rfl, hb, _⟩
  · cases hg
  · cases hg; exact hb
theorem owns_snoc {w : World} {base : Nat} {v : Value} {xs : List ByteArray} {s : ByteArray} (h : w.ownsRow base 9 1 v (xs.length + 1) (xs.map Value.string ++ [Value.string s])) : Hid (w.ownsRow base 9 1 v (xs ++ [s]).length ((xs ++ [s]).map Value.string)) := by
  simpa [Hid] using h

theorem extract_mid (t : ByteArray) (a b : Nat) : dat (t.extract a b) = (dat t |>.drop a).take (b - a) := Lib.extract_data t a b
theorem extract_end (t : ByteArray) (a : Nat) : dat (t.extract a t.size) = (dat t).drop a := Lib.extract_to_end t a

/-- What the loop that trims has come to. -/
theorem trim_done {t : ByteArray} {st i e : Nat} (he : st ≤ e) (hei : e ≤ st + i) (hi : st + i ≤ t.size) (hall : ∀ j (hj : j < t.size), e ≤ j → j < st + i → sp t[j] = true) (hend : e = st ∨ ∃ h : e - 1 < t.size, sp (t[e - 1]'h) = false) :
    dat (t.extract st e) = trimR (((dat t).drop st).take i) := by
  rw [extract_mid]
  symm
  refine trimR_eq (z := (((dat t).drop st).drop (e - st)).take (i - (e - st))) ?_ ?_ ?_
  · conv => lhs; rw [show i = (e - st) + (i - (e - st)) by omega, List.take_add]
  · intro c hc
    obtain ⟨j, hj, rfl⟩ := List.getElem_of_mem hc
    simp only [List.length_take, List.length_drop] at hj
    have hlen : (dat t).length = t.size := rfl
    rw [List.getElem_take, List.getElem_drop, List.getElem_drop]
    exact hall _ (by omega) (by omega) (by omega)
  · intro a r h
    rcases hend with h0 | ⟨hlt, hns⟩
    · subst h0
      simp at h
    · have hlen : (dat t).length = t.size := rfl
      have hl : (((dat t).drop st).take (e - st)).length = e - st := by simp only [List.length_take, List.length_drop]; omega
      by_cases h1 : e = st
      · rw [h1] at h; simp at h
      have h2 : (((dat t).drop st).take (e - st))[e - st - 1]? = some a := by
        rw [h] at hl ⊢
        rw [List.length_append, List.length_singleton] at hl
        rw [List.getElem?_append_right (by omega)]
        rw [show e - st - 1 - r.length = 0 by omega]
        rfl
      rw [List.getElem?_take, if_pos (by omega), List.getElem?_drop, show st + (e - st - 1) = e - 1 by omega, List.getElem?_eq_getElem (by show e - 1 < t.size; exact hlt)] at h2
      injection h2 with h2
      rw [← h2]
      exact hns

theorem skip15' (t : ByteArray) (x : Int) (i : Nat) (w : World) (hx : x = (i : Int)) (ht : t.size ≤ 1048576) (hi : i ≤ t.size) :
    Calls Try.prog 15 #[.string t, .int .i64 x] w fun e w' => w' = w ∧ RetNat (fun j => i ≤ j ∧ j ≤ t.size ∧ t.data.toList.drop j = (t.data.toList.drop i).dropWhile sp) e := by
  subst hx
  exact skip15 t i w ht hi

/-- One round, in the plain words. -/
theorem step_rel {t : ByteArray} {ds : List ByteArray} {st i e f j : Nat} (HI : ds.map dat ++ splitL f ((dat t).drop st) = splitT (dat t) ∧ ((dat t).drop st).length ≤ f) (hix : Lib.index ((dat t).drop st) sepL = i) (htr : dat (t.extract st e) = trimR (((dat t).drop st).take i))
    (hj3 : t.data.toList.drop j = (t.data.toList.drop (st + i + 4)).dropWhile sp) (hl : (dat t).length = t.size) (hj1 : st + i + 4 ≤ j) (hroom : st + i + 4 ≤ t.size) :
    Hid ((ds ++ [t.extract st e]).map dat ++ splitL (f - 1) ((dat t).drop j) = splitT (dat t) ∧ ((dat t).drop j).length ≤ f - 1) := by
  obtain ⟨h1, h2⟩ := HI
  rw [List.length_drop, hl] at h2
  obtain ⟨g, rfl⟩ : ∃ g, f = g + 1 := ⟨f - 1, by omega⟩
  refine ⟨?_, by rw [List.length_drop, hl]; omega⟩
  rw [← h1, splitL_some hix, List.map_append, List.map_singleton, htr, List.append_assoc]
  rw [show (dat t).drop j = (t.data.toList.drop (st + i + 4)).dropWhile sp from hj3, List.drop_drop]
  rw [show st + (i + 4) = st + i + 4 by omega]
  rfl

theorem oneCell_str (s : ByteArray) : ∀ u ∈ [Value.string s], u.oneCell' = true := by
  intro u hu
  simp at hu
  subst hu
  rfl

set_option maxHeartbeats 2000000 in
theorem split13 (t : ByteArray) (m : Int) (w : World) (ht : t.size ≤ 1048576) (hm : w.cell? ⟨0, 0, none⟩ = some (.int .i64 m)) (h0 : 0 < w.heap.size) :
    Calls Try.prog 13 #[.string t] w fun e w' => Below w.heap.size w w' ∧ RetDocs w.heap.size w' (splitT (dat t)) e := by
  obtain ⟨i9, hi, hz0, hz1, hz2⟩ := info_parts Try.info9
  have HL : Hid ((dat t).length = t.size) := rfl
  have HD : Hid (∀ b, dashL.isPrefixOf t.data.toList = b → splitT (dat t) = if b then [] :: splitL t.size (((dat t).drop 3).dropWhile sp) else splitL t.size (dat t)) := fun b hb => by
    unfold splitT
    rw [show dashL.isPrefixOf (dat t) = b from hb]
    rfl
  cases hd : dashL.isPrefixOf t.data.toList with
  | true =>
    have h3 : 3 ≤ t.size := by
      by_cases h : 3 ≤ t.size
      · exact h
      · rw [dash_short t h] at hd; cases hd
    have HT : Hid (splitT (dat t) = [] :: splitL t.size (((dat t).drop 3).dropWhile sp)) := HD.out true hd
    clear HD
    go_enter Try.func13, Try.ntmps13
    go_wp2_with (first | (go_at_call 14; refine (pfx14 _ _ ht).mono ?_; rintro e w' ⟨rfl, rfl⟩) | (at_builtin; refine wpList_append_own _ rfl _ _ 22 rfl w'.heap.size 9 i9 (.string ByteArray.empty) 1 16 Try.underlying22 hi hz0 hz1 hz2 rfl (by decide) _ _ _ rfl ((World.ownsRow_nil _ _ _ _).alloc _) ⟨w'.heap.size, 0, none⟩ 1 1 [.string ⟨#[]⟩] rfl rfl ?a1 (oneCell_str _) ?a3 ?a4 ?a5 ?_))
    case a1 => exact cell_one_new _ _ _
    case a3 => decide
    case a4 => decide
    case a5 => simp
    intro v0 w0 hown0 hgrow0 _
    have hb0 : Below w'.heap.size w' w0 := ((Below.refl _ _).alloc (Nat.le_refl _) _).grown hgrow0 (by simp) (fun g hg => by cases hg)
    have HO0 : Hid (w0.ownsRow w'.heap.size 9 1 v0 [ByteArray.empty].length ([ByteArray.empty].map Value.string)) := hown0
    clear hown0 hgrow0
    go_wp2_with fail
    refine (skip15 t 3 _ ht h3).mono ?_
    rintro e w1 ⟨rfl, j, rfl, hj1, hj2, hj3⟩
    have HI0 : Hid ([ByteArray.empty].map dat ++ splitL t.size ((dat t).drop j) = splitT (dat t) ∧ ((dat t).drop j).length ≤ t.size) := by
      refine ⟨?_, ?_⟩
      · rw [HT.out, show (dat t).drop j = _ from hj3]; rfl
      · rw [List.length_drop, HL.out]; omega
    clear HT hj3
    go_wp2_with fail
    go_loopw [3, 4] (fun v z wr => ∃ (st f : Nat) (ds : List ByteArray), st ≤ t.size ∧ z = .int .i64 st ∧ Hid (wr.ownsRow w'.heap.size 9 1 v ds.length (ds.map Value.string)) ∧ Below w'.heap.size w' wr ∧ Hid (ds.map dat ++ splitL f ((dat t).drop st) = splitT (dat t) ∧ ((dat t).drop st).length ≤ f) ∧ ds.length ≤ st) (fun _ z _ => t.size - (intOf z).toNat)
    case atStart => exact ⟨j, t.size, [ByteArray.empty], hj2, rfl, HO0, hb0, HI0, by simp; omega⟩
    case round =>
      obtain ⟨st, f, ds, hst, rfl, HO, hbel, HI, hdl⟩ := hrel
      have hmr : wr.cell? ⟨0, 0, none⟩ = some (.int .i64 m) := (hbel.cell (p := ⟨0, 0, none⟩) h0).trans hm
      have c1 : (0 : Int) ≤ (st : Int) := by omega
      have c2 : (st : Int) ≤ (t.size : Int) := by omega
      have hsz : (t.extract st t.size).size < 4294967281 := by rw [ByteArray.size_extract]; omega
      have hdl2 : ((dat t).drop st).length = t.size - st := by rw [List.length_drop, HL.out]
      have HX := index16 (t.extract st t.size) ⟨#[10, 45, 45, 45]⟩ m wr hsz hmr
      have hix : Lib.index (t.extract st t.size).data.toList (ByteArray.mk #[10, 45, 45, 45]).data.toList = Lib.index ((dat t).drop st) sepL := by
        rw [show (t.extract st t.size).data.toList = (dat t).drop st from extract_end t st]; rfl
      rw [hix] at HX
      rcases splitL_cases ((dat t).drop st) with hneg | ⟨i, hidx, hroom, hocc, hno⟩
      · have HF : Hid ((ds ++ [t.extract st t.size]).map dat = splitT (dat t)) := by
          show _ = _
          rw [← HI.out.1, splitL_none hneg, List.map_append, List.map_singleton, extract_end]
        obtain ⟨N, hN⟩ : ∃ N, N = Lib.index ((dat t).drop st) sepL := ⟨_, rfl⟩
        rw [← hN] at HX hneg
        have HX2 : Hid (Calls Try.prog 16 #[.string (t.extract st t.size), .string ⟨#[10, 45, 45, 45]⟩] wr fun e w' => e = .returned (.int .i64 N) ∧ w' = wr) := HX
        clear HX hix hN hdl2 hmr hm HI
        go_wp2_with (first | (go_at_call 16; refine HX2.out.mono ?_; rintro e w2 ⟨rfl, rfl⟩) | (at_builtin; refine wpList_append_own _ rfl _ _ 22 rfl w'.heap.size 9 i9 (.string ByteArray.empty) 1 16 Try.underlying22 hi hz0 hz1 hz2 rfl (by decide) _ _ _ rfl (HO.out.alloc _) ⟨_, 0, none⟩ 1 1 [.string (t.extract st t.size)] rfl rfl (cell_one_new _ _ _) (oneCell_str _) ?bb3 ?bb4 ?bb5 ?_))
        case bb3 => unfold maxLen; omega
        case bb4 => omega
        case bb5 => have := hbel.size; simp; omega
        intro v1 w1 hown1 hgrow1 _
        have hb1 := (hbel.alloc (by have := hbel.size; simpa using this) _).grown hgrow1 (by have := hbel.size; simp; omega) (owns_base HO.out)
        have HO1 := owns_snoc hown1
        clear hown1 hgrow1
        go_wp2
        go_ret
        exact ⟨hb1, _, _, rfl, HO1.out, HF.out⟩
      · rw [hidx] at HX
        have HX2 : Hid (Calls Try.prog 16 #[.string (t.extract st t.size), .string ⟨#[10, 45, 45, 45]⟩] wr fun e w' => e = .returned (.int .i64 (i : Int)) ∧ w' = wr) := HX
        have hroom2 : st + i + 4 ≤ t.size := by omega
        have HIx : Hid (Lib.index ((dat t).drop st) sepL = i) := hidx
        clear HX hix hdl2 hmr hm hroom hocc hno hidx
        go_wp2_with (go_at_call 16; refine HX2.out.mono ?_; rintro e w2 ⟨rfl, rfl⟩)
        go_loop [6] (fun z => ∃ e : Nat, st ≤ e ∧ e ≤ st + i ∧ z = .int .i64 e ∧ Hid (∀ j (hj : j < t.size), e ≤ j → j < st + i → sp t[j] = true)) (fun z => (intOf z).toNat)
        case atStart => exact ⟨st + i, by omega, by omega, by go_num, fun j _ h1 h2 => by omega⟩
        case round =>
          obtain ⟨e, he1, he2, rfl, HE⟩ := hrel
          by_cases hlt : st < e
          · have hp : e - 1 < t.size := by omega
            cases hsp : sp (t[e - 1]'hp) with
            | true =>
              have HN : Hid (∀ j (hj : j < t.size), e - 1 ≤ j → j < st + i → sp t[j] = true) := fun j hj h1 h2 => by
                by_cases h : j = e - 1
                · subst h; exact hsp
                · exact HE.out j hj (by omega) h2
              go_wp2_with (go_at_call 17; refine (isSpace17 _ _).mono ?_; rintro x9 w9 ⟨rfl, rfl⟩)
              go_round
              case rel => exact ⟨e - 1, by omega, by omega, by go_num, HN⟩
              case measure => simp [intOf]; omega
            | false =>
              have HTR : Hid (dat (t.extract st e) = trimR (((dat t).drop st).take i)) := trim_done he1 he2 (by omega) HE.out (.inr ⟨hp, hsp⟩)
              have c3 : (st : Int) ≤ (e : Int) := by omega
              have c4 : (e : Int) ≤ (t.size : Int) := by omega
              clear HE HX2
              go_wp2_with (first | (go_at_call 17; refine (isSpace17 _ _).mono ?_; rintro x9 w9 ⟨rfl, rfl⟩) | (at_builtin; refine wpList_append_own _ rfl _ _ 22 rfl w'.heap.size 9 i9 (.string ByteArray.empty) 1 16 Try.underlying22 hi hz0 hz1 hz2 rfl (by decide) _ _ _ rfl (HO.out.alloc _) ⟨_, 0, none⟩ 1 1 [.string (t.extract st e)] rfl rfl (cell_one_new _ _ _) (oneCell_str _) ?dd3 ?dd4 ?dd5 ?_))
              case dd3 => unfold maxLen; omega
              case dd4 => omega
              case dd5 => have := hbel.size; simp; omega
              intro v1 w1 hown1 hgrow1 _
              have hb1 := (hbel.alloc (by have := hbel.size; simpa using this) _).grown hgrow1 (by have := hbel.size; simp; omega) (owns_base HO.out)
              have HO1 := owns_snoc hown1
              clear hown1 hgrow1
              go_wp2_with fail
              refine (skip15' t _ (st + i + 4) _ (by omega) ht hroom2).mono ?_
              rintro x w3 ⟨rfl, j, rfl, hj1, hj2, hj3⟩
              have HI1 : Hid ((ds ++ [t.extract st e]).map dat ++ splitL (f - 1) ((dat t).drop j) = splitT (dat t) ∧ ((dat t).drop j).length ≤ f - 1) := step_rel HI.out HIx.out HTR.out hj3 HL.out hj1 hroom2
              clear hj3
              go_wp2
              go_roundw
              case rel => exact ⟨j, f - 1, ds ++ [t.extract st e], hj2, rfl, HO1, hb1, HI1, by rw [List.length_append, List.length_singleton]; omega⟩
              case measure => simp [intOf]; omega
          · have HES : Hid (e = st) := by show e = st; omega
            have HTR : Hid (dat (t.extract st e) = trimR (((dat t).drop st).take i)) := trim_done he1 he2 (by omega) HE.out (.inl HES.out)
            have c3 : (st : Int) ≤ (e : Int) := by omega
            have c4 : (e : Int) ≤ (t.size : Int) := by omega
            clear HE HX2
            go_wp2_with (first | (go_at_call 17; refine (isSpace17 _ _).mono ?_; rintro x9 w9 ⟨rfl, rfl⟩) | (at_builtin; refine wpList_append_own _ rfl _ _ 22 rfl w'.heap.size 9 i9 (.string ByteArray.empty) 1 16 Try.underlying22 hi hz0 hz1 hz2 rfl (by decide) _ _ _ rfl (HO.out.alloc _) ⟨_, 0, none⟩ 1 1 [.string (t.extract st e)] rfl rfl (cell_one_new _ _ _) (oneCell_str _) ?gg3 ?gg4 ?gg5 ?_))
            case gg3 => unfold maxLen; omega
            case gg4 => omega
            case gg5 => have := hbel.size; simp; omega
            intro v1 w1 hown1 hgrow1 _
            have hb1 := (hbel.alloc (by have := hbel.size; simpa using this) _).grown hgrow1 (by have := hbel.size; simp; omega) (owns_base HO.out)
            have HO1 := owns_snoc hown1
            clear hown1 hgrow1
            go_wp2_with fail
            refine (skip15' t _ (st + i + 4) _ (by omega) ht hroom2).mono ?_
            rintro x w3 ⟨rfl, j, rfl, hj1, hj2, hj3⟩
            have HI1 : Hid ((ds ++ [t.extract st e]).map dat ++ splitL (f - 1) ((dat t).drop j) = splitT (dat t) ∧ ((dat t).drop j).length ≤ f - 1) := step_rel HI.out HIx.out HTR.out hj3 HL.out hj1 hroom2
            clear hj3
            go_wp2
            go_roundw
            case rel => exact ⟨j, f - 1, ds ++ [t.extract st e], hj2, rfl, HO1, hb1, HI1, by rw [List.length_append, List.length_singleton]; omega⟩
            case measure => simp [intOf]; omega
  | false =>
    have HT := HD.out false hd
    have HI0 : Hid ([].map dat ++ splitL t.size ((dat t).drop 0) = splitT (dat t) ∧ ((dat t).drop 0).length ≤ t.size) := ⟨HT.symm, Nat.le_refl _⟩
    clear HD HT
    go_enter Try.func13, Try.ntmps13
    go_wp2_with (go_at_call 14; refine (pfx14 _ _ ht).mono ?_; rintro e w' ⟨rfl, rfl⟩)
    go_loopw [3, 4] (fun v z wr => ∃ (st f : Nat) (ds : List ByteArray), st ≤ t.size ∧ z = .int .i64 st ∧ Hid (wr.ownsRow w'.heap.size 9 1 v ds.length (ds.map Value.string)) ∧ Below w'.heap.size w' wr ∧ Hid (ds.map dat ++ splitL f ((dat t).drop st) = splitT (dat t) ∧ ((dat t).drop st).length ≤ f) ∧ ds.length ≤ st) (fun _ z _ => t.size - (intOf z).toNat)
    case atStart => exact ⟨0, t.size, [], Nat.zero_le _, rfl, World.ownsRow_nil _ _ _ _, Below.refl _ _, HI0, Nat.le_refl _⟩
    case round =>
      obtain ⟨st, f, ds, hst, rfl, HO, hbel, HI, hdl⟩ := hrel
      have hmr : wr.cell? ⟨0, 0, none⟩ = some (.int .i64 m) := (hbel.cell (p := ⟨0, 0, none⟩) h0).trans hm
      have c1 : (0 : Int) ≤ (st : Int) := by omega
      have c2 : (st : Int) ≤ (t.size : Int) := by omega
      have hsz : (t.extract st t.size).size < 4294967281 := by rw [ByteArray.size_extract]; omega
      have hdl2 : ((dat t).drop st).length = t.size - st := by rw [List.length_drop, HL.out]
      have HX := index16 (t.extract st t.size) ⟨#[10, 45, 45, 45]⟩ m wr hsz hmr
      have hix : Lib.index (t.extract st t.size).data.toList (ByteArray.mk #[10, 45, 45, 45]).data.toList = Lib.index ((dat t).drop st) sepL := by
        rw [show (t.extract st t.size).data.toList = (dat t).drop st from extract_end t st]; rfl
      rw [hix] at HX
      rcases splitL_cases ((dat t).drop st) with hneg | ⟨i, hidx, hroom, hocc, hno⟩
      · have HF : Hid ((ds ++ [t.extract st t.size]).map dat = splitT (dat t)) := by
          show _ = _
          rw [← HI.out.1, splitL_none hneg, List.map_append, List.map_singleton, extract_end]
        obtain ⟨N, hN⟩ : ∃ N, N = Lib.index ((dat t).drop st) sepL := ⟨_, rfl⟩
        rw [← hN] at HX hneg
        have HX2 : Hid (Calls Try.prog 16 #[.string (t.extract st t.size), .string ⟨#[10, 45, 45, 45]⟩] wr fun e w' => e = .returned (.int .i64 N) ∧ w' = wr) := HX
        clear HX hix hN hdl2 hmr hm HI
        go_wp2_with (first | (go_at_call 16; refine HX2.out.mono ?_; rintro e w2 ⟨rfl, rfl⟩) | (at_builtin; refine wpList_append_own _ rfl _ _ 22 rfl w'.heap.size 9 i9 (.string ByteArray.empty) 1 16 Try.underlying22 hi hz0 hz1 hz2 rfl (by decide) _ _ _ rfl (HO.out.alloc _) ⟨_, 0, none⟩ 1 1 [.string (t.extract st t.size)] rfl rfl (cell_one_new _ _ _) (oneCell_str _) ?b3 ?b4 ?b5 ?_))
        case b3 => unfold maxLen; omega
        case b4 => omega
        case b5 => have := hbel.size; simp; omega
        intro v1 w1 hown1 hgrow1 _
        have hb1 := (hbel.alloc (by have := hbel.size; simpa using this) _).grown hgrow1 (by have := hbel.size; simp; omega) (owns_base HO.out)
        have HO1 := owns_snoc hown1
        clear hown1 hgrow1
        go_wp2
        go_ret
        exact ⟨hb1, _, _, rfl, HO1.out, HF.out⟩
      · rw [hidx] at HX
        have HX2 : Hid (Calls Try.prog 16 #[.string (t.extract st t.size), .string ⟨#[10, 45, 45, 45]⟩] wr fun e w' => e = .returned (.int .i64 (i : Int)) ∧ w' = wr) := HX
        have hroom2 : st + i + 4 ≤ t.size := by omega
        have HIx : Hid (Lib.index ((dat t).drop st) sepL = i) := hidx
        clear HX hix hdl2 hmr hm hroom hocc hno hidx
        go_wp2_with (go_at_call 16; refine HX2.out.mono ?_; rintro e w2 ⟨rfl, rfl⟩)
        go_loop [6] (fun z => ∃ e : Nat, st ≤ e ∧ e ≤ st + i ∧ z = .int .i64 e ∧ Hid (∀ j (hj : j < t.size), e ≤ j → j < st + i → sp t[j] = true)) (fun z => (intOf z).toNat)
        case atStart => exact ⟨st + i, by omega, by omega, by go_num, fun j _ h1 h2 => by omega⟩
        case round =>
          obtain ⟨e, he1, he2, rfl, HE⟩ := hrel
          by_cases hlt : st < e
          · have hp : e - 1 < t.size := by omega
            cases hsp : sp (t[e - 1]'hp) with
            | true =>
              have HN : Hid (∀ j (hj : j < t.size), e - 1 ≤ j → j < st + i → sp t[j] = true) := fun j hj h1 h2 => by
                by_cases h : j = e - 1
                · subst h; exact hsp
                · exact HE.out j hj (by omega) h2
              go_wp2_with (go_at_call 17; refine (isSpace17 _ _).mono ?_; rintro x9 w9 ⟨rfl, rfl⟩)
              go_round
              case rel => exact ⟨e - 1, by omega, by omega, by go_num, HN⟩
              case measure => simp [intOf]; omega
            | false =>
              have HTR : Hid (dat (t.extract st e) = trimR (((dat t).drop st).take i)) := trim_done he1 he2 (by omega) HE.out (.inr ⟨hp, hsp⟩)
              have c3 : (st : Int) ≤ (e : Int) := by omega
              have c4 : (e : Int) ≤ (t.size : Int) := by omega
              clear HE HX2
              go_wp2_with (first | (go_at_call 17; refine (isSpace17 _ _).mono ?_; rintro x9 w9 ⟨rfl, rfl⟩) | (at_builtin; refine wpList_append_own _ rfl _ _ 22 rfl w'.heap.size 9 i9 (.string ByteArray.empty) 1 16 Try.underlying22 hi hz0 hz1 hz2 rfl (by decide) _ _ _ rfl (HO.out.alloc _) ⟨_, 0, none⟩ 1 1 [.string (t.extract st e)] rfl rfl (cell_one_new _ _ _) (oneCell_str _) ?d3 ?d4 ?d5 ?_))
              case d3 => unfold maxLen; omega
              case d4 => omega
              case d5 => have := hbel.size; simp; omega
              intro v1 w1 hown1 hgrow1 _
              have hb1 := (hbel.alloc (by have := hbel.size; simpa using this) _).grown hgrow1 (by have := hbel.size; simp; omega) (owns_base HO.out)
              have HO1 := owns_snoc hown1
              clear hown1 hgrow1
              go_wp2_with fail
              refine (skip15' t _ (st + i + 4) _ (by omega) ht hroom2).mono ?_
              rintro x w3 ⟨rfl, j, rfl, hj1, hj2, hj3⟩
              have HI1 : Hid ((ds ++ [t.extract st e]).map dat ++ splitL (f - 1) ((dat t).drop j) = splitT (dat t) ∧ ((dat t).drop j).length ≤ f - 1) := step_rel HI.out HIx.out HTR.out hj3 HL.out hj1 hroom2
              clear hj3
              go_wp2
              go_roundw
              case rel => exact ⟨j, f - 1, ds ++ [t.extract st e], hj2, rfl, HO1, hb1, HI1, by rw [List.length_append, List.length_singleton]; omega⟩
              case measure => simp [intOf]; omega
          · have HES : Hid (e = st) := by show e = st; omega
            have HTR : Hid (dat (t.extract st e) = trimR (((dat t).drop st).take i)) := trim_done he1 he2 (by omega) HE.out (.inl HES.out)
            have c3 : (st : Int) ≤ (e : Int) := by omega
            have c4 : (e : Int) ≤ (t.size : Int) := by omega
            clear HE HX2
            go_wp2_with (first | (go_at_call 17; refine (isSpace17 _ _).mono ?_; rintro x9 w9 ⟨rfl, rfl⟩) | (at_builtin; refine wpList_append_own _ rfl _ _ 22 rfl w'.heap.size 9 i9 (.string ByteArray.empty) 1 16 Try.underlying22 hi hz0 hz1 hz2 rfl (by decide) _ _ _ rfl (HO.out.alloc _) ⟨_, 0, none⟩ 1 1 [.string (t.extract st e)] rfl rfl (cell_one_new _ _ _) (oneCell_str _) ?g3 ?g4 ?g5 ?_))
            case g3 => unfold maxLen; omega
            case g4 => omega
            case g5 => have := hbel.size; simp; omega
            intro v1 w1 hown1 hgrow1 _
            have hb1 := (hbel.alloc (by have := hbel.size; simpa using this) _).grown hgrow1 (by have := hbel.size; simp; omega) (owns_base HO.out)
            have HO1 := owns_snoc hown1
            clear hown1 hgrow1
            go_wp2_with fail
            refine (skip15' t _ (st + i + 4) _ (by omega) ht hroom2).mono ?_
            rintro x w3 ⟨rfl, j, rfl, hj1, hj2, hj3⟩
            have HI1 : Hid ((ds ++ [t.extract st e]).map dat ++ splitL (f - 1) ((dat t).drop j) = splitT (dat t) ∧ ((dat t).drop j).length ≤ f - 1) := step_rel HI.out HIx.out HTR.out hj3 HL.out hj1 hroom2
            clear hj3
            go_wp2
            go_roundw
            case rel => exact ⟨j, f - 1, ds ++ [t.extract st e], hj2, rfl, HO1, hb1, HI1, by rw [List.length_append, List.length_singleton]; omega⟩
            case measure => simp [intOf]; omega

end Go.Proofs.Qxb6001354a
