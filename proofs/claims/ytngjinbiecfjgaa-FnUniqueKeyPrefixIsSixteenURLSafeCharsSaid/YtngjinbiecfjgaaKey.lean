/-
  Proved: the program's unique key text is exactly sixteen characters of the URL-safe base64 alphabet, without failure. No condition (the law has no argument).
-/
import Derived.Test.YtngjinbiecfjgaaRows
import Derived.WalkKit
import Derived.WalkSpells
import Derived.WalkLawsBesides
import Derived.ProofKit
import Derived.OpenShut
import Derived.ShutString
import Derived.Lib.Hide
import Derived.LoopTactic
import Derived.RegionTactic
import Derived.Deep.QuietTactic
import Derived.BigQuiet
namespace Go.Proofs.Ytngjinbiecfjgaa
open Go.ChangeShapes Go.WideShapes Go.ChangeAt Go.RowKit
open Go.ChangeMaps (open_string shut_string)

theorem own : ownKnob Try.prog.godebug = none := by kernel_rfl

def pre : ByteArray := ⟨#[122, 122, 81, 107, 56, 118, 87, 120, 51, 109, 84, 114, 45, 55, 76, 112]⟩

theorem gen_any (w : World) : Calls Try.prog 4 #[] w fun e w' => e = .returned (.tuple #[.string pre, .bool true]) ∧ ∃ n, w' = w.drewN n := by
  go_enter Try.func4, Try.ntmps4
  go_wp2
  go_quiet (fail)
  go_wp2
  go_ret2
  exact ⟨rfl, _, rfl⟩
def isB (n : Int) : Bool := (65 ≤ n && n ≤ 90) || (97 ≤ n && n ≤ 122) || (48 ≤ n && n ≤ 57) || n == 45 || n == 95
theorem is_any (n : Int) (h : 0 ≤ n) (hb : isB n = true) (w : World) : Calls Try.prog 5 #[.int .u8 n] w fun e w' => e = .returned (.bool true) ∧ w = w' := by
  simp [isB] at hb
  go_enter Try.func5, Try.ntmps5
  go_wp2
  all_goals (go_ret; refine ⟨?_, rfl⟩; congr 2; try (simp; omega))
theorem pre_size : pre.size = 16 := rfl
theorem pre_all (k : Nat) (h : k < pre.size) : isB (pre[k].toNat : Int) = true := by
  have : ∀ k, (h : k < 16) → isB ((pre[k]'(by rw [pre_size]; exact h)).toNat : Int) = true := by decide
  exact this k h
attribute [irreducible] pre
theorem walk (w : World) : Calls Try.prog 3 #[] w fun e w' => e = .returned (.bool true) ∧ Grown w w' := by
  have hps := pre_size
  go_enter Try.func3, Try.ntmps3
  go_wp2_with (go_at_call 4; refine (gen_any _).mono ?_; rintro e w' ⟨rfl, nq, rfl⟩)
  go_loop [3] (fun i => ∃ k : Nat, k ≤ 16 ∧ i = .int .i64 k) (fun i => 16 - (intOf i).toNat)
  case atStart => exact ⟨0, by omega, rfl⟩
  case round =>
    obtain ⟨k, hk, rfl⟩ := hrel
    by_cases hlt : k < 16
    · have hb := Lib.hid (pre_all k (by omega))
      go_wp2_with (go_at_call 5; refine (is_any _ (by omega) hb.out _).mono ?_; rintro e w' ⟨rfl, rfl⟩)
      go_round
      case rel => exact ⟨k + 1, by omega, by go_num⟩
      case measure => simp [intOf]; omega
    · obtain rfl : k = 16 := by omega
      go_wp2
      go_ret
      exact ⟨rfl, by repeat (first | exact Grown.refl _ | apply Grown.drew | apply Grown.alloc)⟩

set_option maxRecDepth 100000 in
theorem lifted (os : Os) (started : os.Started) (H : Type) (enc : TypeId × Value → H) :
    ReturnsInHanded {} Try.checked os 3 .any (Rows.fnUniqueKeyPrefixIsSixteenURLSafeCharsSpec.pre6 enc Try.prog Try.f3 Rows.fnUniqueKeyPrefixIsSixteenURLSafeCharsRow.domain false) (Rows.fnUniqueKeyPrefixIsSixteenURLSafeCharsSpec.post enc Try.prog Try.f3 false true false false) := by
  refine returnsInHanded_of_change (C := Try.checked) own started (by kernel_rfl) Try.func3
    (ChangeSpec.witness6 (enc := enc) (C := Try.checked) false ⟨#[], #[], []⟩ 8 (by kernel_rfl) (by kernel_rfl) (by kernel_rfl) (by kernel_rfl)) ?_
  intro W base args ds gs before hval0 hW hcnd _
  have hval : ∀ (j : Nat) t v, Try.f3.params[j]? = some t → args[j]? = some v → Value.okWide Try.prog W .any base t v := hval0
  have hW' := hW
  obtain ⟨p, q, hA0, hV, rfl, hfz, hnd⟩ := hW
  have hA : DataW.TrodAll enc Try.prog W 0 (fun _ => true) true Try.f3.params.toList args.toList ds p := hA0
  rw [Try.params3] at hA hval
  obtain ⟨rfl, rfl, rfl⟩ := trodAll_none hA
  obtain ⟨rfl, rfl⟩ := trodVars_none hV
  clear hA0 hval0
  simp only [List.append_nil] at hW'
  refine (walk  W).mono fun e W' ⟨he, hg⟩ => ?_
  subst he
  exact ⟨_, rfl, post_of_same (pa := []) (pv := []) hW' (fun _ _ _ => (trodAll_cons_mk (shut_bool Try.underlying4 _) trodAll_mk0)) (fun sp _ => rfl) (fun _ _ => rfl) rfl
    (hg.frame _) hg.2.1 (ok_one (by kernel_rfl) rfl (okWide_bool_mk Try.underlying4 _))⟩

theorem over : Rows.fnUniqueKeyPrefixIsSixteenURLSafeCharsRow.holds Try.pinned (OpenSpec.ofChange Rows.fnUniqueKeyPrefixIsSixteenURLSafeCharsSpec) :=
  OpenClaim.holds_of_wide 3 Try.f3 rfl rfl rfl rfl rfl rfl rfl ⟨rfl, rfl, rfl, rfl, rfl⟩ rfl rfl rfl rfl rfl (by kernel_rfl) Try.func3 (by kernel_rfl)
    (of_decide_eq_true (by kernel_rfl)) (by unfold Func.isWrapper; first | (rw [if_pos (by decide +kernel)]; kernel_rfl) | (rw [if_neg (by decide +kernel)]; exact ⟨rfl, rfl⟩))
    (fun os started H enc _ => lifted os started H enc)

/-- THE STATEMENT -/
theorem proved : Rows.FnUniqueKeyPrefixIsSixteenURLSafeCharsSaid :=
  over
#print axioms proved
end Go.Proofs.Ytngjinbiecfjgaa
