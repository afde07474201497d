/-
  Proved: plain: what is sniffed; the types' texts behind zzReplaceAll. No statement of the seat stands here.
-/
import Derived.Test.YtflpmhjfchpplaaDoorMime
namespace Go.Proofs.YtflpmhjfchpplaaDoor
open Go.RowKit Go.ChangeAt
set_option linter.unusedSimpArgs false
set_option linter.unusedVariables false
set_option maxRecDepth 100000
theorem first_ws : ∀ l : List UInt8, ∃ k, k ≤ l.length ∧ (∀ j, j < k → wsN (l.getD j 0).toNat = true) ∧ (k < l.length → wsN (l.getD k 0).toNat = false)
  | [] => ⟨0, Nat.le_refl _, fun j hj => absurd hj (Nat.not_lt_zero j), fun h => absurd h (Nat.lt_irrefl 0)⟩
  | x :: t => by
    by_cases h : wsN x.toNat = true
    · obtain ⟨k, h1, h2, h3⟩ := first_ws t
      refine ⟨k + 1, by simp; omega, fun j hj => ?_, fun hk => ?_⟩
      · cases j with
        | zero => exact h
        | succ j => rw [List.getD_cons_succ]; exact h2 j (by omega)
      · rw [List.getD_cons_succ]; exact h3 (by simpa using hk)
    · exact ⟨0, Nat.zero_le _, fun j hj => absurd hj (Nat.not_lt_zero j), fun _ => by simpa using h⟩
theorem pre_take (l : List UInt8) : [116, 116, 99, 102].isPrefixOf (l.take 512) = ([116, 116, 99, 102] : List UInt8).isPrefixOf l := by
  match l with
  | [] => rfl
  | [_] => rfl
  | [_, _] => rfl
  | [_, _, _] => rfl
  | a :: b :: c :: d :: t => simp [List.isPrefixOf]
theorem sniff_font (l : List UInt8) (hl : ∀ x ∈ l, Sn.low x = true) (hp : ([116, 116, 99, 102] : List UInt8).isPrefixOf l = true) : ∃ k, Sniff l k 42 [102, 111, 110, 116, 47, 99, 111, 108, 108, 101, 99, 116, 105, 111, 110] := by
  obtain ⟨k, h1, h2, h3⟩ := first_ws (l.take 512)
  exact ⟨k, h2, h3, h1, Sn.hit_font _ k (fun x hx => hl x (List.mem_of_mem_take hx)) (by rw [List.length_take]; omega) (by rw [pre_take]; exact hp), by decide⟩
theorem sniff_text (l : List UInt8) (hl : ∀ x ∈ l, Sn.low x = true) (hp : ([116, 116, 99, 102] : List UInt8).isPrefixOf l = false) : ∃ k, Sniff l k 50 [116, 101, 120, 116, 47, 112, 108, 97, 105, 110, 59, 32, 99, 104, 97, 114, 115, 101, 116, 61, 117, 116, 102, 45, 56] := by
  obtain ⟨k, h1, h2, h3⟩ := first_ws (l.take 512)
  exact ⟨k, h2, h3, h1, Sn.hit_text _ k (fun x hx => hl x (List.mem_of_mem_take hx)) (by rw [List.length_take]; omega) (by rw [pre_take]; exact hp), by decide⟩
theorem sniff_pdf (t : List UInt8) : Sniff ([37, 80, 68, 70, 45] ++ t) 0 18 [97, 112, 112, 108, 105, 99, 97, 116, 105, 111, 110, 47, 112, 100, 102] := by
  have e : (([37, 80, 68, 70, 45] : List UInt8) ++ t).take 512 = [37, 80, 68, 70, 45] ++ t.take 507 := by simp
  refine ⟨fun j hj => absurd hj (Nat.not_lt_zero j), fun _ => ?_, Nat.zero_le _, ?_, by decide⟩
  · rw [e]; rfl
  · rw [e]; exact Sn.hit_pdf _
theorem sniff_png (t : List UInt8) : Sniff ([137, 80, 78, 71, 13, 10, 26, 10] ++ t) 0 29 [105, 109, 97, 103, 101, 47, 112, 110, 103] := by
  have e : (([137, 80, 78, 71, 13, 10, 26, 10] : List UInt8) ++ t).take 512 = [137, 80, 78, 71, 13, 10, 26, 10] ++ t.take 504 := by simp
  refine ⟨fun j hj => absurd hj (Nat.not_lt_zero j), fun _ => ?_, Nat.zero_le _, ?_, by decide⟩
  · rw [e]; rfl
  · rw [e]; exact Sn.hit_png _
theorem sniff_gif (t : List UInt8) : Sniff ([71, 73, 70, 56, 57, 97] ++ t) 0 27 [105, 109, 97, 103, 101, 47, 103, 105, 102] := by
  have e : (([71, 73, 70, 56, 57, 97] : List UInt8) ++ t).take 512 = [71, 73, 70, 56, 57, 97] ++ t.take 506 := by simp
  refine ⟨fun j hj => absurd hj (Nat.not_lt_zero j), fun _ => ?_, Nat.zero_le _, ?_, by decide⟩
  · rw [e]; rfl
  · rw [e]; exact Sn.hit_gif _
theorem sniff_jpg (t : List UInt8) : Sniff ([255, 216, 255] ++ t) 0 30 [105, 109, 97, 103, 101, 47, 106, 112, 101, 103] := by
  have e : (([255, 216, 255] : List UInt8) ++ t).take 512 = [255, 216, 255] ++ t.take 509 := by simp
  refine ⟨fun j hj => absurd hj (Nat.not_lt_zero j), fun _ => ?_, Nat.zero_le _, ?_, by decide⟩
  · rw [e]; rfl
  · rw [e]; exact Sn.hit_jpg _
theorem rep_font (w : World) : Calls Tryd.prog 13 #[.string (strB [102, 111, 110, 116, 47, 99, 111, 108, 108, 101, 99, 116, 105, 111, 110]), .string ⟨#[59, 32]⟩, .string ⟨#[59]⟩] w (TxtOut ⟨#[102, 111, 110, 116, 47, 99, 111, 108, 108, 101, 99, 116, 105, 111, 110]⟩ w) :=
  rep13_none ⟨#[102, 111, 110, 116, 47, 99, 111, 108, 108, 101, 99, 116, 105, 111, 110]⟩ 14 w (by decide) (by decide) (by decide) (by decide) (by decide)
theorem rep_pdf (w : World) : Calls Tryd.prog 13 #[.string (strB [97, 112, 112, 108, 105, 99, 97, 116, 105, 111, 110, 47, 112, 100, 102]), .string ⟨#[59, 32]⟩, .string ⟨#[59]⟩] w (TxtOut ⟨#[97, 112, 112, 108, 105, 99, 97, 116, 105, 111, 110, 47, 112, 100, 102]⟩ w) :=
  rep13_none ⟨#[97, 112, 112, 108, 105, 99, 97, 116, 105, 111, 110, 47, 112, 100, 102]⟩ 14 w (by decide) (by decide) (by decide) (by decide) (by decide)
theorem rep_png (w : World) : Calls Tryd.prog 13 #[.string (strB [105, 109, 97, 103, 101, 47, 112, 110, 103]), .string ⟨#[59, 32]⟩, .string ⟨#[59]⟩] w (TxtOut ⟨#[105, 109, 97, 103, 101, 47, 112, 110, 103]⟩ w) :=
  rep13_none ⟨#[105, 109, 97, 103, 101, 47, 112, 110, 103]⟩ 8 w (by decide) (by decide) (by decide) (by decide) (by decide)
theorem rep_gif (w : World) : Calls Tryd.prog 13 #[.string (strB [105, 109, 97, 103, 101, 47, 103, 105, 102]), .string ⟨#[59, 32]⟩, .string ⟨#[59]⟩] w (TxtOut ⟨#[105, 109, 97, 103, 101, 47, 103, 105, 102]⟩ w) :=
  rep13_none ⟨#[105, 109, 97, 103, 101, 47, 103, 105, 102]⟩ 8 w (by decide) (by decide) (by decide) (by decide) (by decide)
theorem rep_jpg (w : World) : Calls Tryd.prog 13 #[.string (strB [105, 109, 97, 103, 101, 47, 106, 112, 101, 103]), .string ⟨#[59, 32]⟩, .string ⟨#[59]⟩] w (TxtOut ⟨#[105, 109, 97, 103, 101, 47, 106, 112, 101, 103]⟩ w) :=
  rep13_none ⟨#[105, 109, 97, 103, 101, 47, 106, 112, 101, 103]⟩ 9 w (by decide) (by decide) (by decide) (by decide) (by decide)
theorem rep_text (w : World) : Calls Tryd.prog 13 #[.string (strB [116, 101, 120, 116, 47, 112, 108, 97, 105, 110, 59, 32, 99, 104, 97, 114, 115, 101, 116, 61, 117, 116, 102, 45, 56]), .string ⟨#[59, 32]⟩, .string ⟨#[59]⟩] w (TxtOut ⟨#[116, 101, 120, 116, 47, 112, 108, 97, 105, 110, 59, 99, 104, 97, 114, 115, 101, 116, 61, 117, 116, 102, 45, 56]⟩ w) := by
  have h := rep13_one (strB [116, 101, 120, 116, 47, 112, 108, 97, 105, 110, 59, 32, 99, 104, 97, 114, 115, 101, 116, 61, 117, 116, 102, 45, 56]) ⟨#[116, 101, 120, 116, 47, 112, 108, 97, 105, 110]⟩ ⟨#[99, 104, 97, 114, 115, 101, 116, 61, 117, 116, 102, 45, 56]⟩ ⟨#[116, 101, 120, 116, 47, 112, 108, 97, 105, 110, 59]⟩ w (by rfl) (by rfl) (by decide) (by decide) (by decide) (by decide) (by decide) (by decide) (fun n hn => by subst hn; rfl) (by rfl)
  exact h
end Go.Proofs.YtflpmhjfchpplaaDoor
