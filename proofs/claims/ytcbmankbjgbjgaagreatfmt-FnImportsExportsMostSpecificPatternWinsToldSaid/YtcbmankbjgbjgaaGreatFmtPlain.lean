/-
  Proved: plain law: what path.Join gives. No program and no statement of the seat stands here.
-/
import Derived.Lib.JoinSame2
import Derived.Lib.CleanSame
namespace Go.Proofs.YtcbmankbjgbjgaaGreatFmt
open Go.Lib
theorem els_pkg (l : List UInt8) (h47 : 47 ∉ l) : Pa.els l = [l] := by
  have h := Pa.els_elem l [] h47 (.inl rfl)
  rw [List.append_nil] at h
  rw [h]
  rfl
theorem clean_pkg (l : List UInt8) (h47 : 47 ∉ l) (h0 : l ≠ []) (h1 : l ≠ [46]) (h2 : l ≠ [46, 46]) : Pa.clean ([47, 112, 107, 103, 47] ++ l) = [47, 112, 107, 103, 47] ++ l := by
  have e1 : Pa.els ([47, 112, 107, 103, 47] ++ l) = [[], [112, 107, 103], l] := by
    show Pa.els (47 :: ([112, 107, 103] ++ 47 :: l)) = _
    rw [Pa.els_slash, Pa.els_elem [112, 107, 103] (47 :: l) (by decide) (.inr rfl)]
    show _ :: _ :: Pa.els l = _
    rw [els_pkg l h47]
  rw [Pa.clean_eq_cleanEls, Pa.cleanEls_abs _ (by simp) (by rfl), e1]
  simp only [List.foldl_cons, List.foldl_nil, Pa.step_nil]
  rw [Pa.step_elem true [] [112, 107, 103] (by decide) (by decide) (by decide), Pa.step_elem true _ l h0 h1 h2]
  simp [List.intercalate]
theorem clean_dot (l : List UInt8) (h47 : 47 ∉ l) (h0 : l ≠ []) (h1 : l ≠ [46]) (h2 : l ≠ [46, 46]) : Pa.clean ([47, 112, 107, 103, 47, 46, 47] ++ l) = [47, 112, 107, 103, 47] ++ l := by
  have e1 : Pa.els ([47, 112, 107, 103, 47, 46, 47] ++ l) = [[], [112, 107, 103], [46], l] := by
    show Pa.els (47 :: ([112, 107, 103] ++ 47 :: ([46] ++ 47 :: l))) = _
    rw [Pa.els_slash, Pa.els_elem [112, 107, 103] _ (by decide) (.inr rfl)]
    show _ :: _ :: Pa.els ([46] ++ 47 :: l) = _
    rw [Pa.els_elem [46] (47 :: l) (by decide) (.inr rfl)]
    show _ :: _ :: _ :: Pa.els l = _
    rw [els_pkg l h47]
  rw [Pa.clean_eq_cleanEls, Pa.cleanEls_abs _ (by simp) (by rfl), e1]
  simp only [List.foldl_cons, List.foldl_nil, Pa.step_nil]
  rw [Pa.step_elem true [] [112, 107, 103] (by decide) (by decide) (by decide), Pa.step_dot, Pa.step_elem true _ l h0 h1 h2]
  simp [List.intercalate]
theorem join_pkg (l : List UInt8) (h47 : 47 ∉ l) (h0 : l ≠ []) (h1 : l ≠ [46]) (h2 : l ≠ [46, 46]) : Pa.join [[47, 112, 107, 103], [46, 47] ++ l] = [47, 112, 107, 103, 47] ++ l := by
  have e : ([47] : List UInt8).intercalate [[47, 112, 107, 103], [46, 47] ++ l] = [47, 112, 107, 103, 47, 46, 47] ++ l := by simp [List.intercalate]
  have hf : [[47, 112, 107, 103], [46, 47] ++ l].filter (· ≠ []) = [[47, 112, 107, 103], [46, 47] ++ l] := by simp
  unfold Pa.join
  rw [hf, if_neg (by simp), e, clean_dot l h47 h0 h1 h2]
theorem join_again (l : List UInt8) (h47 : 47 ∉ l) (h0 : l ≠ []) (h1 : l ≠ [46]) (h2 : l ≠ [46, 46]) : Pa.join [[47, 112, 107, 103, 47] ++ l, []] = [47, 112, 107, 103, 47] ++ l := by
  have hf : [[47, 112, 107, 103, 47] ++ l, []].filter (· ≠ []) = [[47, 112, 107, 103, 47] ++ l] := by simp
  unfold Pa.join
  rw [hf, if_neg (by simp)]
  show Pa.clean (([47] : List UInt8).intercalate [[47, 112, 107, 103, 47] ++ l]) = _
  rw [show ([47] : List UInt8).intercalate [[47, 112, 107, 103, 47] ++ l] = [47, 112, 107, 103, 47] ++ l by simp [List.intercalate]]
  exact clean_pkg l h47 h0 h1 h2
end Go.Proofs.YtcbmankbjgbjgaaGreatFmt
