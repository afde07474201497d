/-
  Proved: plain law: a clean relative path behind '/out/' is clean, and its elements. No program and no statement of the seat stands here.
-/
import Derived.Lib.JoinSame2
import Derived.Lib.CleanSame
namespace Go.Proofs.YtambbfgmbfamkaaGreatDoor
open Go.Lib
/-- A path's segment. -/
structure Seg (l : List UInt8) : Prop where
  ne : l ≠ []
  dot : l ≠ [46]
  dots : l ≠ [46, 46]
  no47 : 47 ∉ l
  no92 : 92 ∉ l
/-- A clean relative path. -/
def Rel (l : List UInt8) : Prop := ∀ x ∈ Pa.els l, Seg x
theorem els_one (l : List UInt8) (h : 47 ∉ l) : Pa.els l = [l] := by
  have h2 := Pa.els_elem l [] h (.inl rfl)
  rw [List.append_nil] at h2
  rw [h2]
  rfl
theorem els_ne (l : List UInt8) : Pa.els l ≠ [] := by
  cases l with
  | nil => unfold Pa.els; simp
  | cons c t =>
    unfold Pa.els
    split
    · simp
    · split <;> simp
theorem inter_two (x y : List UInt8) (r : List (List UInt8)) : ([47] : List UInt8).intercalate (x :: y :: r) = x ++ 47 :: ([47] : List UInt8).intercalate (y :: r) := by
  simp [List.intercalate]
theorem inter_head (c : UInt8) (e : List UInt8) (r : List (List UInt8)) : ([47] : List UInt8).intercalate ((c :: e) :: r) = c :: ([47] : List UInt8).intercalate (e :: r) := by
  cases r with
  | nil => simp [List.intercalate]
  | cons y r => rw [inter_two, inter_two]; rfl
/-- The elements, put together again. -/
theorem els_join : ∀ l : List UInt8, ([47] : List UInt8).intercalate (Pa.els l) = l
  | [] => by unfold Pa.els; simp [List.intercalate]
  | c :: t => by
    have ih := els_join t
    have hn := els_ne t
    unfold Pa.els
    split
    · rename_i h
      subst h
      cases he : Pa.els t with
      | nil => exact absurd he hn
      | cons y r =>
        rw [he] at ih
        rw [inter_two, ih]
        rfl
    · cases he : Pa.els t with
      | nil => exact absurd he hn
      | cons y r =>
        rw [he] at ih
        show ([47] : List UInt8).intercalate ((c :: y) :: r) = _
        rw [inter_head, ih]
theorem fold_segs : ∀ (xs acc : List (List UInt8)), (∀ x ∈ xs, Seg x) → xs.foldl (Pa.cleanStep true) acc = xs.reverse ++ acc
  | [], acc, _ => rfl
  | x :: xs, acc, h => by
    have hx := h x List.mem_cons_self
    rw [List.foldl_cons, Pa.step_elem true acc x hx.ne hx.dot hx.dots, fold_segs xs (x :: acc) fun y hy => h y (List.mem_cons_of_mem _ hy)]
    simp
theorem clean_rel (l : List UInt8) (h : Rel l) : Pa.clean ([47, 111, 117, 116, 47] ++ l) = [47, 111, 117, 116, 47] ++ l := by
  have e1 : Pa.els ([47, 111, 117, 116, 47] ++ l) = [] :: [111, 117, 116] :: Pa.els l := by
    show Pa.els (47 :: ([111, 117, 116] ++ 47 :: l)) = _
    rw [Pa.els_slash, Pa.els_elem [111, 117, 116] (47 :: l) (by decide) (.inr rfl)]
    rfl
  rw [Pa.clean_eq_cleanEls, Pa.cleanEls_abs _ (by simp) (by rfl), e1]
  simp only [List.foldl_cons, Pa.step_nil]
  rw [Pa.step_elem true [] [111, 117, 116] (by decide) (by decide) (by decide), fold_segs _ _ h]
  rw [List.reverse_append, List.reverse_reverse]
  show 47 :: ([47] : List UInt8).intercalate ([111, 117, 116] :: Pa.els l) = _
  have hj := els_join l
  cases he : Pa.els l with
  | nil => exact absurd he (els_ne l)
  | cons y r =>
    rw [he] at hj
    rw [inter_two, hj]
    rfl
theorem clean_out : Pa.clean [47, 111, 117, 116] = [47, 111, 117, 116] := by
  have e1 : Pa.els [47, 111, 117, 116] = [[], [111, 117, 116]] := by
    show Pa.els (47 :: [111, 117, 116]) = _
    rw [Pa.els_slash, els_one _ (by decide)]
  rw [Pa.clean_eq_cleanEls, Pa.cleanEls_abs _ (by simp) (by rfl), e1]
  simp only [List.foldl_cons, List.foldl_nil, Pa.step_nil]
  rw [Pa.step_elem true [] [111, 117, 116] (by decide) (by decide) (by decide)]
  simp [List.intercalate]
end Go.Proofs.YtambbfgmbfamkaaGreatDoor
