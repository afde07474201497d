/-
  Proved: contracts of the law's small helpers: zzValidSeg, zzValidRel, zzIndexSlash, zzHasPrefix. No statement of the seat stands here.
-/
import Derived.Test.YtambbfgmbfamkaaGreatDoorBase
import Derived.Test.YtambbfgmbfamkaaGreatDoorRelp
import Derived.WideShapes
import Derived.Test.YtambbfgmbfamkaaGreatDoorProg
namespace Go.Proofs.YtambbfgmbfamkaaGreatDoor
open Go.RowKit Go.ChangeAt
set_option linter.unusedSimpArgs false
set_option linter.unusedVariables false
set_option maxRecDepth 100000
def bt (s : ByteArray) (i : Nat) : Nat := if h : i < s.size then (s[i]'h).toNat else 0
theorem bt_eq (s : ByteArray) (i : Nat) (h : i < s.size) : (s[i]'h).toNat = bt s i := by unfold bt; rw [dif_pos h]
theorem lit_eq {f : ByteArray} {l : Array UInt8} (h : f = ⟨l⟩) : (f.toList == l.toList) = true := by
  subst h
  rw [ByteArray.toList_eq]
  simp
theorem lit_ne {f : ByteArray} {l : Array UInt8} (h : ¬ f = ⟨l⟩) : (f.toList == l.toList) = false := by
  refine beq_eq_false_iff_ne.2 fun e => h ?_
  rw [ByteArray.toList_eq] at e
  exact ByteArray.ext (Array.toList_inj.1 e)
theorem toNat_eq {c : UInt8} {n : Nat} (h : c.toNat = n) (hn : n < 256) : c = UInt8.ofNat n := by
  apply UInt8.toNat_inj.1
  rw [h, UInt8.toNat_ofNat']
  omega
def intOf : Value → Int | .int _ q => q | _ => 0
theorem len_list (s : ByteArray) : s.data.toList.length = s.size := by rw [Array.length_toList]; rfl
theorem get_at_list (s : ByteArray) (i : Nat) (h : i < s.size) : s.data.toList[i]? = some (s[i]'h) := by
  have h2 : i < s.data.toList.length := by rw [len_list]; exact h
  rw [List.getElem?_eq_getElem h2]
  rfl
theorem bt_list (s : ByteArray) (i : Nat) (c : UInt8) (h : s.data.toList[i]? = some c) : bt s i = c.toNat := by
  have hl : i < s.size := by rw [← len_list]; exact (List.getElem?_eq_some_iff.1 h).1
  rw [get_at_list s i hl] at h
  rw [← bt_eq s i hl]
  exact congrArg UInt8.toNat (Option.some.inj h)
theorem mem_bt (s : ByteArray) (c : UInt8) (h : c ∈ s.data.toList) : ∃ i, i < s.size ∧ bt s i = c.toNat := by
  obtain ⟨i, hi⟩ := List.mem_iff_getElem?.1 h
  exact ⟨i, by rw [← len_list]; exact (List.getElem?_eq_some_iff.1 hi).1, bt_list s i c hi⟩
theorem ne_list {s : ByteArray} {l : Array UInt8} (h : ¬ s = ⟨l⟩) : s.data.toList ≠ l.toList := fun e => h (ByteArray.ext (Array.toList_inj.1 e))
def SegOut (s : ByteArray) (w : World) (e : Ending) (w' : World) : Prop := ∃ r : Bool, e = .returned (.bool r) ∧ w = w' ∧ (r = true → Seg s.data.toList)
theorem seg16 (s : ByteArray) (w : World) (hs : s.size ≤ 1048576) : Calls Tryz.prog 16 #[.string s] w (SegOut s w) := by
  by_cases h1 : s = ⟨#[]⟩
  · have a1 := lit_eq h1
    clear h1
    go_enter Tryz.func16, Tryz.ntmps16
    go_wp2
    all_goals (go_ret; exact ⟨false, rfl, rfl, fun h => by cases h⟩)
  have a1 := lit_ne h1
  have b1 := Lib.hid (ne_list h1)
  clear h1
  by_cases h2 : s = ⟨#[46]⟩
  · have a2 := lit_eq h2
    clear h2
    go_enter Tryz.func16, Tryz.ntmps16
    go_wp2
    all_goals (go_ret; exact ⟨false, rfl, rfl, fun h => by cases h⟩)
  have a2 := lit_ne h2
  have b2 := Lib.hid (ne_list h2)
  clear h2
  by_cases h3 : s = ⟨#[46, 46]⟩
  · have a3 := lit_eq h3
    clear h3
    go_enter Tryz.func16, Tryz.ntmps16
    go_wp2
    all_goals (go_ret; exact ⟨false, rfl, rfl, fun h => by cases h⟩)
  have a3 := lit_ne h3
  have b3 := Lib.hid (ne_list h3)
  clear h3
  go_enter Tryz.func16, Tryz.ntmps16
  go_wp2_with fail
  go_loop [3] (fun i => ∃ k : Nat, k ≤ s.size ∧ i = .int .i64 k ∧ ∀ j, j < k → bt s j ≠ 47 ∧ bt s j ≠ 92) (fun i => s.size - (intOf i).toNat)
  case atStart => exact ⟨0, by omega, rfl, fun j hj => by omega⟩
  case round =>
    obtain ⟨k, hk, rfl, hno⟩ := hrel
    have Hno := Lib.hid hno
    clear hno
    by_cases hlt : k < s.size
    · have hb := bt_eq s k hlt
      have hx : (k : Int) < (s.size : Int) := by omega
      have hx0 : (0 : Int) ≤ (k : Int) := by omega
      by_cases h4 : bt s k = 47
      · have h4' : ((bt s k : Int) == 47) = true := beq_iff_eq.2 (by omega)
        go_wp2_with fail
        go_ret
        exact ⟨false, rfl, rfl, fun h => by cases h⟩
      have h4' : ((bt s k : Int) == 47) = false := beq_eq_false_iff_ne.2 (by omega)
      by_cases h5 : bt s k = 92
      · have h5' : ((bt s k : Int) == 92) = true := beq_iff_eq.2 (by omega)
        go_wp2_with fail
        go_ret
        exact ⟨false, rfl, rfl, fun h => by cases h⟩
      have h5' : ((bt s k : Int) == 92) = false := beq_eq_false_iff_ne.2 (by omega)
      have Hn := Lib.hid (And.intro h4 h5)
      clear h4 h5
      go_wp2_with fail
      go_round
      case rel => exact ⟨k + 1, by omega, by go_num, fun j hj => by
        by_cases e : j = k
        · subst e; exact Hn.out
        · exact Hno.out j (by omega)⟩
      case measure => simp [intOf]; omega
    · obtain rfl : k = s.size := by omega
      have hx : ¬ ((s.size : Int)) < (s.size : Int) := by omega
      go_wp2_with fail
      go_ret
      refine ⟨true, rfl, rfl, fun _ => ⟨b1.out, b2.out, b3.out, fun h => ?_, fun h => ?_⟩⟩
      · obtain ⟨i, hi, hb⟩ := mem_bt s 47 h
        exact (Hno.out i hi).1 hb
      · obtain ⟨i, hi, hb⟩ := mem_bt s 92 h
        exact (Hno.out i hi).2 hb
/-- The rest of s from k on is a list of segments only if.. (what zzValidRel keeps). -/
def Kept (s : ByteArray) (k : Nat) : Prop := (∀ x ∈ Lib.Pa.els (s.data.toList.drop k), Seg x) → Rel s.data.toList
theorem ext_list (s : ByteArray) (a k : Nat) : (s.extract a k).data.toList = (s.data.toList.drop a).take (k - a) := by
  rw [ByteArray.data_extract, Array.toList_extract, List.extract_eq_take_drop]
theorem no_slash (s : ByteArray) (a k : Nat) (h : ∀ j, a ≤ j → j < k → bt s j ≠ 47) : 47 ∉ (s.data.toList.drop a).take (k - a) := by
  intro hm
  obtain ⟨i, hi⟩ := List.mem_iff_getElem?.1 hm
  rw [List.getElem?_take] at hi
  split at hi
  · rename_i hlt
    rw [List.getElem?_drop] at hi
    exact h (a + i) (by omega) (by omega) (bt_list s _ 47 hi)
  · cases hi
theorem kept_step (s : ByteArray) (a k : Nat) (ha : a ≤ k) (hk : k < s.size) (hb : bt s k = 47) (h : ∀ j, a ≤ j → j < k → bt s j ≠ 47) (hg : Seg (s.extract a k).data.toList) (hK : Kept s a) : Kept s (k + 1) := by
  intro hr
  refine hK fun x hx => ?_
  have hc : s.data.toList[k]? = some 47 := by
    rw [get_at_list s k hk, toNat_eq ((bt_eq s k hk).trans hb) (by decide)]
    rfl
  have e : s.data.toList.drop a = (s.data.toList.drop a).take (k - a) ++ 47 :: s.data.toList.drop (k + 1) := by
    have h1 := (List.take_append_drop (k - a) (s.data.toList.drop a)).symm
    rw [List.drop_drop, show a + (k - a) = k by omega] at h1
    have hl : k < s.data.toList.length := by rw [len_list]; exact hk
    rw [List.drop_eq_getElem_cons hl] at h1
    rw [List.getElem?_eq_getElem hl] at hc
    rw [Option.some.inj hc] at h1
    exact h1
  rw [e, Lib.Pa.els_elem _ _ (no_slash s a k h) (.inr rfl)] at hx
  rcases List.mem_cons.1 hx with rfl | hx
  · rw [ext_list] at hg; exact hg
  · refine hr x ?_
    exact hx
theorem kept_end (s : ByteArray) (a k : Nat) (ha : a ≤ k) (hk : k = s.size) (h : ∀ j, a ≤ j → j < k → bt s j ≠ 47) (hg : Seg (s.extract a k).data.toList) (hK : Kept s a) : Rel s.data.toList := by
  have e : (s.data.toList.drop a).take (k - a) = s.data.toList.drop a := by
    apply List.take_of_length_le
    rw [List.length_drop, len_list]
    omega
  refine hK fun x hx => ?_
  have hn := no_slash s a k h
  rw [e] at hn
  rw [els_one _ hn] at hx
  rw [ext_list, e] at hg
  rcases List.mem_cons.1 hx with rfl | hx
  · exact hg
  · cases hx
def RelOut (s : ByteArray) (w : World) (e : Ending) (w' : World) : Prop := ∃ r : Bool, e = .returned (.bool r) ∧ w = w' ∧ (r = true → Rel s.data.toList)
end Go.Proofs.YtambbfgmbfamkaaGreatDoor
