/-
  The closure of englishMessages, HasPrefix at LC_.
-/
import Derived.Test.Qxb6001160aEmPlain
import Derived.Shelf.SlicesE.DeleteFunc
import Derived.Lib.OwnBridge
import Derived.Shelf.SlGeneric
namespace Go.Proofs.Qxb6001160a
open Go.RowKit

set_option maxHeartbeats 400000 in
theorem pfx55 (s : ByteArray) (w : World) (hs : s.size ≤ maxLen) :
    Calls Try.prog 55 #[.string s, .string ⟨#[76, 67, 95]⟩] w fun e w' => e = .returned (.bool (hasLC s)) ∧ w' = w := by
  unfold maxLen at hs
  by_cases h : 3 ≤ s.size
  · have c : (3 : Int) ≤ (s.size : Int) := by omega
    have hh : hasLC s = ((s.extract 0 3).toList == [76, 67, 95]) := by unfold hasLC sLC; rw [decide_eq_true h]; rfl
    have HH : Hid (hasLC s = ((s.extract 0 3).toList == [76, 67, 95])) := hh
    clear hh
    go_enter Try.func55, Try.ntmps55
    go_wp2
    all_goals
      go_ret
      exact ⟨by rw [HH.out]; first | rfl | simp_all, rfl⟩
  · have hh : hasLC s = false := by unfold hasLC; rw [decide_eq_false h]; rfl
    have HH : Hid (hasLC s = false) := hh
    have c : ¬ (3 : Int) ≤ (s.size : Int) := by omega
    clear hh
    go_enter Try.func55, Try.ntmps55
    go_wp2
    go_ret
    exact ⟨by rw [HH.out]; first | rfl | simp_all, rfl⟩

set_option maxHeartbeats 400000 in
theorem pfx50 (s : ByteArray) (w : World) (hs : s.size ≤ maxLen) :
    Calls Try.prog 50 #[.string s, .string ⟨#[76, 67, 95]⟩] w fun e w' => e = .returned (.bool (hasLC s)) ∧ w' = w := by
  go_enter Try.func50, Try.ntmps50
  go_wp2_with (go_at_call 55; refine (pfx55 _ _ hs).mono ?_; rintro e w' ⟨rfl, rfl⟩)
  go_ret
  exact ⟨rfl, rfl⟩

set_option maxHeartbeats 400000 in
/-- The closure. -/
theorem del49 (s : ByteArray) (w : World) (hs : s.size ≤ maxLen) :
    Calls Try.prog 49 #[.string s] w fun e w' => e = .returned (.bool (delB s)) ∧ ∃ q, w' = w.drewN q := by
  have hn := Nat.le_trans (nameOf_size s) hs
  cases h1 : (nameOf s).toList == [76, 65, 78, 71] with
  | true =>
    have HD : Hid (delB s = true) := by show delB s = true; unfold delB sLang; rw [h1]; rfl
    go_enter Try.func49, Try.ntmps49
    go_wp2_with (go_at_call 47; refine (cut47 _ _ hs).mono ?_; rintro e w' ⟨rfl, q, rfl⟩)
    go_ret
    exact ⟨by rw [HD.out]; rfl, _, rfl⟩
  | false =>
    have HD : Hid (delB s = hasLC (nameOf s)) := by show delB s = _; unfold delB sLang; rw [h1]; rfl
    go_enter Try.func49, Try.ntmps49
    go_wp2_with (first | (go_at_call 47; refine (cut47 _ _ hs).mono ?_; rintro e w' ⟨rfl, q, rfl⟩) | (go_at_call 50; refine (pfx50 _ _ hn).mono ?_; rintro e w' ⟨rfl, rfl⟩))
    go_ret
    exact ⟨by rw [HD.out]; rfl, _, rfl⟩

set_option maxHeartbeats 400000 in
theorem idx54_nil (w : World) : Calls Try.prog 54 #[.slice none 0 0, .func (.func 49) #[] #[]] w fun e w' => e = .returned (.int .i64 (-1)) ∧ w' = w := by
  go_enter Try.func54, Try.ntmps54
  go_wp2
  refine wp_loop_rounds 1 ?_; rw [rounds_succ]
  go_wp2
  go_ret
  exact ⟨rfl, rfl⟩

set_option maxHeartbeats 400000 in
theorem del48_nil (w : World) : Calls Try.prog 48 #[.slice none 0 0, .func (.func 49) #[] #[]] w fun e w' => e = .returned (.slice none 0 0) ∧ w' = w := by
  go_enter Try.func48, Try.ntmps48
  go_wp2_with (go_at_call 54; refine (idx54_nil _).mono ?_; rintro e w' ⟨rfl, rfl⟩)
  go_ret
  exact ⟨rfl, rfl⟩

/-- slices.DeleteFunc's text is the one that the shelf's contract was proved of (the numbers of this dump). -/
def Try.laysH10_ren : Go.Shelf.Ren := ⟨fun | 10 => 48 | 6 => 54 | n => n, fun | 22 => 22 | 23 => 9 | 25 => 73 | 3 => 3 | 4 => 4 | 0 => 0 | n => n, fun | n => n⟩
theorem Try.laysH10 : Go.Proofs.SlLaysH.n10 Try.prog Try.laysH10_ren := {
  mixed := by kernel_rfl
  f6 := ⟨Try.f54.name, by decide, Try.func54.trans (congrArg some (by kernel_rfl))⟩
  f10 := ⟨Try.f48.name, by decide, Try.func48.trans (congrArg some (by kernel_rfl))⟩
  t0 := Try.underlying0
  a0 := Try.isAgg0
  z0 := Try.sizeOf0
  v0 := Try.zeroValue0
  t3 := Try.underlying3
  a3 := Try.isAgg3
  z3 := Try.sizeOf3
  v3 := Try.zeroValue3
  t4 := Try.underlying4
  a4 := Try.isAgg4
  z4 := Try.sizeOf4
  v4 := Try.zeroValue4
  t22 := Try.underlying22
  a22 := Try.isAgg22
  z22 := Try.sizeOf22
  v22 := Try.zeroValue22
  a23 := Try.isAgg9
  z23 := Try.sizeOf9
  t25 := Try.underlying73
  a25 := Try.isAgg73
  z25 := Try.sizeOf73
  v25 := Try.zeroValue73 }

/-- A string of a length that Go knows. -/
abbrev Str : Type := { s : ByteArray // s.size ≤ maxLen }
def emptyS : Str := ⟨ByteArray.empty, by decide⟩
def encS (x : Str) : Value := .string x.1
def delS (x : Str) : Bool := delB x.1

theorem predAt49 (w : World) : PredAt Try.prog 49 #[] encS delS w := fun W x _ => del49 x.1 W x.2

theorem del48_some (I : Inhabited Str) (g cap : Nat) (zs : List Str) (base : Nat) (w : World) (hown : w.ownsRow base 9 1 (.slice (some ⟨g, 0, none⟩) zs.length cap) zs.length (zs.map encS)) (hcap : zs.length ≤ cap) (hm : cap ≤ maxLen) (hg : base ≤ g) (hH : Sort.Holds encS w g 0 zs.toArray) :
    Calls Try.prog 48 #[.slice (some ⟨g, 0, none⟩) zs.length cap, .func (.func 49) #[] #[]] w fun e w' => Below base w w' ∧ ∃ v, e = .returned v ∧ w'.ownsRow base 9 1 v (zs.filter fun x => !delS x).length ((zs.filter fun x => !delS x).map encS) := by
  unfold maxLen at hm
  have hpo : PredOver Try.prog 49 #[] encS delS g 0 zs.toArray.size w := fun n os dk x _ => del49 x.1 _ x.2
  have hC := AnyE.slices_DeleteFunc Try.laysH10 encS (fun _ => rfl) delS 49 #[] (enters_of Try.func49 (by kernel_rfl) rfl) emptyS Try.zeroValue9 g 0 cap zs.toArray w (predAt49 w) hpo hH (by simp; omega) (by simpa using hcap)
  refine Calls.mono hC ?_
  rintro e w' ⟨rfl, q, rfl⟩
  refine ⟨Lib.below_putRow (Below.refl _ _) hg, _, rfl, ?_⟩
  have hfl : (zs.filter fun x => !delS x).length ≤ zs.length := List.length_filter_le _ _
  have := Lib.ownsRow_putRow (q := q) (k := (zs.filter fun x => !delS x).length) (ys := (zs.filter fun x => !delS x) ++ List.replicate (zs.length - (zs.filter fun x => !delS x).length) emptyS) hown (by simp; omega) hfl
  rw [List.take_left] at this
  simpa using this

theorem del48 (v : Value) (xs : List ByteArray) (base : Nat) (w : World) (hown : w.ownsRow base 9 1 v xs.length (xs.map Value.string)) (hs : ∀ s ∈ xs, s.size ≤ maxLen) :
    Calls Try.prog 48 #[v, .func (.func 49) #[] #[]] w fun e w' => Below base w w' ∧ RetStrs base w' (xs.filter fun s => !delB s) e := by
  obtain ⟨zs, hzs⟩ : ∃ zs : List Str, zs.map (fun x : Str => x.1) = xs := ⟨xs.pmap (fun s h => ⟨s, h⟩) hs, by rw [List.map_pmap]; simp⟩
  have hlen : zs.length = xs.length := by rw [← hzs]; simp
  have henc : zs.map encS = xs.map Value.string := by rw [← hzs, List.map_map]; rfl
  rw [← henc, ← hlen] at hown
  by_cases hv : v = .slice none 0 0
  · subst hv
    have hz : zs = [] := by
      rcases hown.2 with ⟨_, h0⟩ | ⟨_, _, _, h, _⟩
      · exact List.length_eq_zero_iff.1 h0
      · cases h
    subst hz
    have hx : xs = [] := by rw [← hzs]; rfl
    subst hx
    refine (del48_nil w).mono ?_
    rintro e w' ⟨rfl, rfl⟩
    exact ⟨Below.refl _ _, _, rfl, World.ownsRow_nil _ _ _ _⟩
  · have I : Inhabited Str := ⟨emptyS⟩
    obtain ⟨g, cap, rfl, hg, _, hcap, hm, _, hH⟩ := Lib.holds_of_ownsRow hown hv
    refine (del48_some I g cap zs base w hown hcap hm hg hH).mono ?_
    rintro e w' ⟨hb, v, rfl, ho⟩
    refine ⟨hb, v, rfl, ?_⟩
    have e1 : xs.filter (fun s => !delB s) = (zs.filter fun x => !delS x).map (fun x : Str => x.1) := by rw [← hzs, List.filter_map]; rfl
    rw [e1, List.length_map, List.map_map]
    exact ho

end Go.Proofs.Qxb6001160a
