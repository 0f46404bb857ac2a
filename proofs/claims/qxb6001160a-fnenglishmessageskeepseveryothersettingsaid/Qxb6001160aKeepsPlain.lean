/-
  The plain law behind FnEnglishMessagesKeepsEveryOtherSetting.
-/
import Derived.Test.Qxb6001160aRefuses
namespace Go.Proofs.Qxb6001160a
open Go.RowKit

def lookStep (nm : List UInt8) (v s : ByteArray) : ByteArray := if (nameOf s).toList == nm then valOf s else v
/-- zzLookup: the last entry of that name wins. -/
def look (nm : List UInt8) (ss : List ByteArray) : ByteArray := ss.foldl (lookStep nm) ByteArray.empty
/-- zzEffective. -/
def eff (ss : List ByteArray) (cat : List UInt8) : ByteArray :=
  if (look sAll ss).toList.isEmpty then (if (look cat ss).toList.isEmpty then look sLang ss else look cat ss) else look sAll ss

theorem look_snoc (nm : List UInt8) (ss : List ByteArray) (s : ByteArray) : look nm (ss ++ [s]) = lookStep nm (look nm ss) s := by simp [look, List.foldl_append]

theorem allOf_look (ss : List ByteArray) : allOf ss = look sAll ss := rfl

theorem lookStep_ne {nm : List UInt8} {v s : ByteArray} (h : (nameOf s).toList ≠ nm) : lookStep nm v s = v := by
  unfold lookStep
  rw [if_neg (by simpa using h)]
theorem lookStep_eq {nm : List UInt8} {v s : ByteArray} (h : (nameOf s).toList = nm) : lookStep nm v s = valOf s := by
  unfold lookStep
  rw [if_pos (by simpa using h)]

theorem fold_filter (nm : List UInt8) (p : ByteArray → Bool) : ∀ (ss : List ByteArray) (v : ByteArray), (∀ s ∈ ss, (nameOf s).toList = nm → p s = true) → (ss.filter p).foldl (lookStep nm) v = ss.foldl (lookStep nm) v
  | [], _, _ => rfl
  | s :: ss, v, h => by
    have ih := fun v => fold_filter nm p ss v (fun x hx => h x (List.mem_cons_of_mem _ hx))
    by_cases hp : p s = true
    · rw [List.filter_cons_of_pos hp, List.foldl_cons, List.foldl_cons, ih]
    · rw [List.filter_cons_of_neg hp, List.foldl_cons, ih, lookStep_ne]
      intro hn
      exact hp (h s List.mem_cons_self hn)

theorem look_filter {nm : List UInt8} {p : ByteArray → Bool} {ss : List ByteArray} (h : ∀ s ∈ ss, (nameOf s).toList = nm → p s = true) : look nm (ss.filter p) = look nm ss :=
  fold_filter nm p ss _ h

theorem fold_none (nm : List UInt8) : ∀ (ss : List ByteArray) (v : ByteArray), (∀ s ∈ ss, (nameOf s).toList ≠ nm) → ss.foldl (lookStep nm) v = v
  | [], _, _ => rfl
  | s :: ss, v, h => by rw [List.foldl_cons, lookStep_ne (h s List.mem_cons_self), fold_none nm ss v (fun x hx => h x (List.mem_cons_of_mem _ hx))]

theorem look_none {nm : List UInt8} {ss : List ByteArray} (h : ∀ s ∈ ss, (nameOf s).toList ≠ nm) : look nm ss = ByteArray.empty := fold_none nm ss _ h

theorem empty_isEmpty : ByteArray.empty.toList.isEmpty = true := by rw [ByteArray.toList_eq]; rfl

theorem nameOf_msg : (nameOf bMsgC).toList = sMsg := by
  have h : eqAt bMsgC = some 11 := by unfold eqAt bMsgC; decide
  rw [nameOf_some h, ByteArray.toList_eq, Lib.extract_data]
  rfl
theorem valOf_msg : (valOf bMsgC).toList = [67] := by
  have h : eqAt bMsgC = some 11 := by unfold eqAt bMsgC; decide
  rw [valOf_some h, ByteArray.toList_eq, Lib.extract_data]
  rfl
theorem valOf_lang (A : ByteArray) : valOf (bLangE ++ A) = A := by
  rw [valOf_some (eqAt_lang A)]
  apply Go.WideShapes.bytes_inj
  rw [Lib.extract_data, append_data]
  show List.take _ A.data.toList = _
  rw [List.take_of_length_le]
  rw [ByteArray.size_append, size_list]
  have : bLangE.size = 5 := rfl
  omega

theorem keepB_iff (s : ByteArray) : keepB s = true ↔ (nameOf s).toList ≠ sAll ∧ (nameOf s).toList ≠ sMsg ∧ (nameOf s).toList ≠ sLge := by
  unfold keepB
  simp [and_assoc]

theorem keepB_of {s : ByteArray} {nm : List UInt8} (h : (nameOf s).toList = nm) (h1 : nm ≠ sAll) (h2 : nm ≠ sMsg) (h3 : nm ≠ sLge) : keepB s = true := by
  rw [keepB_iff, h]
  exact ⟨h1, h2, h3⟩

theorem hasLC_of {s cat : ByteArray} (h : (nameOf s).toList = cat.toList) : hasLC (nameOf s) = hasLC cat := by
  have : nameOf s = cat := Go.WideShapes.bytes_inj (by rw [ByteArray.toList_eq, ByteArray.toList_eq] at h; exact h)
  rw [this]

theorem look_em {nm : List UInt8} (ss : List ByteArray) (h : nm ≠ sMsg) : look nm (emOf ss) = look nm (midOf ss) := by
  unfold emOf
  rw [look_snoc, lookStep_ne]
  rw [nameOf_msg]
  exact fun e => h e.symm

theorem look_all_em (ss : List ByteArray) : look sAll (emOf ss) = ByteArray.empty := by
  rw [look_em ss (by decide)]
  exact look_none fun s hs => ((keepB_iff s).1 (midOf_keep ss s hs)).1

theorem look_kept {nm : List UInt8} (ss : List ByteArray) (h1 : nm ≠ sAll) (h2 : nm ≠ sMsg) (h3 : nm ≠ sLge) : look nm (keptOf ss) = look nm ss :=
  look_filter fun _ _ hn => keepB_of hn h1 h2 h3

theorem eff_msg (ss : List ByteArray) : (eff (emOf ss) sMsg).toList = [67] := by
  have e1 : look sMsg (emOf ss) = valOf bMsgC := by
    unfold emOf
    rw [look_snoc, lookStep_eq nameOf_msg]
  unfold eff
  rw [look_all_em, if_pos empty_isEmpty, e1, if_neg (by rw [valOf_msg]; decide), valOf_msg]

theorem not_lc_lang : ∀ A : ByteArray, hasLC (nameOf (bLangE ++ A)) = false := by
  intro A
  have h := nameOf_lang A
  have : nameOf (bLangE ++ A) = ⟨#[76, 65, 78, 71]⟩ := Go.WideShapes.bytes_inj (by rw [ByteArray.toList_eq] at h; exact h)
  rw [this]
  unfold hasLC sLC
  rw [ByteArray.toList_eq]
  decide

theorem lc_ne_lang {cat : ByteArray} (h : hasLC cat = true) : cat.toList ≠ sLang ∧ cat.toList ≠ sLge := by
  unfold hasLC at h
  rw [Bool.and_eq_true] at h
  have h2 := beq_iff_eq.1 h.2
  rw [ByteArray.toList_eq, Lib.extract_data] at h2
  rw [ByteArray.toList_eq]
  constructor
  · intro e; rw [e] at h2; revert h2; decide
  · intro e; rw [e] at h2; revert h2; decide

theorem eff_cat (ss : List ByteArray) (cat : ByteArray) (hc : hasLC cat = true) (h1 : cat.toList ≠ sAll) (h2 : cat.toList ≠ sMsg) : eff (emOf ss) cat.toList = eff ss cat.toList := by
  obtain ⟨h4, h3⟩ := lc_ne_lang hc
  have hl : look sLang (emOf ss) = look sLang (midOf ss) := look_em ss (by decide)
  have hk : look cat.toList (emOf ss) = look cat.toList (midOf ss) := look_em ss h2
  unfold eff
  rw [look_all_em, if_pos empty_isEmpty, hl, hk]
  unfold midOf
  rw [allOf_look]
  by_cases ha : (look sAll ss).toList.isEmpty = true
  · rw [if_pos ha, if_pos ha, look_kept ss h1 h2 h3, look_kept ss (by decide) (by decide) (by decide)]
  · rw [if_neg ha, if_neg ha]
    have e1 : look cat.toList (((keptOf ss).filter fun s => !delB s) ++ [bLangE ++ look sAll ss]) = ByteArray.empty := by
      rw [look_snoc, lookStep_ne (by rw [nameOf_lang]; exact fun e => h4 e.symm)]
      refine look_none fun s hs hn => ?_
      have hd := (List.mem_filter.1 hs).2
      unfold delB at hd
      rw [hasLC_of hn, hc] at hd
      simp at hd
    rw [e1, if_pos empty_isEmpty, look_snoc, lookStep_eq (nm := sLang) (nameOf_lang _), valOf_lang]

theorem look_other (ss : List ByteArray) (o : ByteArray) (h1 : o.toList ≠ sLang) (h2 : o.toList ≠ sLge) (hc : hasLC o = false) : look o.toList (emOf ss) = look o.toList ss := by
  have hA : o.toList ≠ sAll := by
    intro e
    have : o = ⟨#[76, 67, 95, 65, 76, 76]⟩ := Go.WideShapes.bytes_inj (by rw [ByteArray.toList_eq] at e; exact e)
    rw [this] at hc
    unfold hasLC sLC at hc
    rw [ByteArray.toList_eq] at hc
    revert hc; decide
  have hM : o.toList ≠ sMsg := by
    intro e
    have : o = ⟨#[76, 67, 95, 77, 69, 83, 83, 65, 71, 69, 83]⟩ := Go.WideShapes.bytes_inj (by rw [ByteArray.toList_eq] at e; exact e)
    rw [this] at hc
    unfold hasLC sLC at hc
    rw [ByteArray.toList_eq] at hc
    revert hc; decide
  rw [look_em ss hM]
  unfold midOf
  by_cases ha : (allOf ss).toList.isEmpty = true
  · rw [if_pos ha, look_kept ss hA hM h2]
  · rw [if_neg ha, look_snoc, lookStep_ne (by rw [nameOf_lang]; exact fun e => h1 e.symm), look_filter, look_kept ss hA hM h2]
    intro s _ hn
    unfold delB
    rw [hasLC_of hn, hc, hn]
    simpa using h1

end Go.Proofs.Qxb6001160a
