/-
  Proved: the contract of the exported matchQueryPathToResult. No statement of the seat stands here.
-/
import Derived.Test.YtambbfgmbfamkaaGreatDoorMatch
namespace Go.Proofs.YtambbfgmbfamkaaGreatDoor
open Go.RowKit Go.ChangeAt
set_option linter.unusedSimpArgs false
set_option linter.unusedVariables false
set_option maxRecDepth 100000
def DOut (w : World) (f : Nat → ByteArray) (c : Nat → Option Addr × Nat × Nat) (n : Nat) (q : ByteArray) (bD bF kD kF : Nat) (KD KF : List (List UInt8)) (e : Ending) (w' : World) : Prop :=
  (∃ k, k < n ∧ Hit (f k) q ∧ Scan w w' f q bD bF kD kF KD KF k ∧ e = .returned (.tuple #[.int .i64 2, .slice (c k).1 (c k).2.1 (c k).2.2, .string (outS ++ f k), .bool (decide (f k ≠ q))])) ∨
  (Scan w w' f q bD bF kD kF KD KF n ∧ e = .returned (.tuple #[.int .i64 (if anyP f (qdir q) n then 1 else 0), .slice none 0 0, .string ⟨#[]⟩, .bool false]))
set_option maxHeartbeats 4000000 in
theorem match9 (h R : Value) (q : ByteArray) (n bD bF kD kF : Nat) (f : Nat → ByteArray) (c : Nat → Option Addr × Nat × Nat) (KD KF : List (List UInt8)) (w : World)
    (hc : Calls Tryz.prog 15 #[h, .string q, R, .map (some bD), .map (some bF)] w (MOut w f c n q bD bF kD kF KD KF)) :
    Calls Tryz.prog 9 #[h, .string q, R, .map (some bD), .map (some bF)] w (DOut w f c n q bD bF kD kF KD KF) := by
  have HC := Lib.hid hc
  clear hc
  go_enter Tryz.func9, Tryz.ntmps9
  go_wp2_with fail
  refine HC.out.mono ?_
  rintro e1 w1 (⟨k, h1, h2, h3, rfl⟩ | ⟨h3, rfl⟩)
  · have H := Lib.hid (And.intro h1 (And.intro h2 h3))
    clear h1 h2 h3
    go_wp2_with fail
    ((try simp only [Exit.inBlock, Exit.then]); refine bodyPost_ret (results_tmp4 rfl _ _ _) rfl ?_)
    refine .inl ⟨k, H.out.1, H.out.2.1, H.out.2.2, ?_⟩
    rw [show decide (f k ≠ q) = !decide (f k = q) from by simp]
    rfl
  · have H := Lib.hid h3
    clear h3
    cases han : anyP f (qdir q) n
    · go_wp2_with fail
      ((try simp only [Exit.inBlock, Exit.then]); refine bodyPost_ret (results_tmp4 rfl _ _ _) rfl ?_)
      exact .inr ⟨H.out, by rw [han]; rfl⟩
    · go_wp2_with fail
      ((try simp only [Exit.inBlock, Exit.then]); refine bodyPost_ret (results_tmp4 rfl _ _ _) rfl ?_)
      exact .inr ⟨H.out, by rw [han]; rfl⟩
end Go.Proofs.YtambbfgmbfamkaaGreatDoor
