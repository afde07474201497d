/-
  Proved: contracts of the small functions of Go's float formatting (unrounded scaling). No condition; no statement of the seat stands here.
-/
import Derived.Test.YtmlgfhdjdmfdbaaDoorBase
import Derived.Test.YtmlgfhdjdmfdbaaDoorShelf
import Derived.Laws.Bits64b
namespace Go.Proofs.YtmlgfhdjdmfdbaaDoor
open Go.RowKit Go.ChangeAt
set_option linter.unusedSimpArgs false
set_option linter.unusedVariables false
set_option maxRecDepth 100000
/-! ## The plain functions -/
def b2n (b : Bool) : Nat := if b then 1 else 0
def usc (x hi lo s : Nat) : Nat :=
  if x * hi / 18446744073709551616 / 2 ^ s * 2 ^ s = x * hi / 18446744073709551616 then
    ((if x * hi % 18446744073709551616 < x * lo / 18446744073709551616 then x * hi / 18446744073709551616 - 1 else x * hi / 18446744073709551616) / 2 ^ s) ||| (if (x * hi % 18446744073709551616 + 18446744073709551616 - x * lo / 18446744073709551616) % 18446744073709551616 ≤ 1 then 0 else 1)
  else x * hi / 18446744073709551616 / 2 ^ s ||| 1
def l10 (x : Int) : Int := x * 78913 / 262144
def l2 (x : Int) : Int := x * 108853 / 32768
def skw (x : Int) : Int := (x * 631305 - 261663) / 2097152
def Drew (v : Value) (w : World) (e : Ending) (w' : World) : Prop := e = .returned v ∧ ∃ q, w' = w.drewN q
def Same (v : Value) (w : World) (e : Ending) (w' : World) : Prop := e = .returned v ∧ w = w'
/-! ## The walks -/
theorem bool58 (b : Bool) (w : World) : Calls Tryd.prog 63 #[.bool b] w (Same (.int .u64 (b2n b : Nat)) w) := by
  cases b
  · go_enter Tryd.func63, Tryd.ntmps63
    go_wp2_with fail
    go_ret
    exact ⟨rfl, rfl⟩
  · go_enter Tryd.func63, Tryd.ntmps63
    go_wp2_with fail
    go_ret
    exact ⟨rfl, rfl⟩
theorem mul57 (x y h m : Nat) (hx : x < 18446744073709551616) (hy : y < 18446744073709551616) (hh : h = x * y / 18446744073709551616) (hm : m = x * y % 18446744073709551616) (w : World) :
    Calls Tryd.prog 62 #[.int .u64 x, .int .u64 y] w (Same (.tuple #[.int .u64 h, .int .u64 m]) w) := by
  subst hh; subst hm
  exact (Tryd.bits_Mul64 x y hx hy w).mono fun e w' h => ⟨h.1, h.2.symm⟩
theorem skew37 (x : Int) (h1 : -100000 ≤ x) (h2 : x ≤ 100000) (w : World) : Calls Tryd.prog 43 #[.int .i64 x] w (Same (.int .i64 (skw x)) w) := by
  go_enter Tryd.func43, Tryd.ntmps43
  go_wp2_with fail
  go_ret
  refine ⟨?_, rfl⟩
  unfold skw
  simp
theorem l10_28 (x : Int) (h1 : -100000 ≤ x) (h2 : x ≤ 100000) (w : World) : Calls Tryd.prog 31 #[.int .i64 x] w (Same (.int .i64 (l10 x)) w) := by
  go_enter Tryd.func31, Tryd.ntmps31
  go_wp2_with fail
  go_ret
  refine ⟨?_, rfl⟩
  unfold l10
  simp
theorem l2_39 (x : Int) (h1 : -100000 ≤ x) (h2 : x ≤ 100000) (w : World) : Calls Tryd.prog 45 #[.int .i64 x] w (Same (.int .i64 (l2 x)) w) := by
  go_enter Tryd.func45, Tryd.ntmps45
  go_wp2_with fail
  go_ret
  refine ⟨?_, rfl⟩
  unfold l2
  simp
theorem nudge41 (u : Nat) (d : Int) (v : Nat) (hd : d = 0 ∨ d = 1 ∨ d = -1) (hv : (v : Int) = (u : Int) + d) (hu : u < 9223372036854775808) (w : World) : Calls Tryd.prog 47 #[.int .u64 u, .int .i64 d] w (Same (.int .u64 v) w) := by
  have e1 : IntKind.u64.wrap ((u : Int) + IntKind.u64.wrap d) = (v : Int) := by
    rw [IntKind.wrap_u64, IntKind.wrap_u64]
    omega
  have H := Lib.hid (And.intro hd (And.intro hv hu))
  clear hd hv hu
  go_enter Tryd.func47, Tryd.ntmps47
  go_wp2_with fail
  go_ret
  exact ⟨rfl, rfl⟩
theorem ceil42 (u : Nat) (hu : u < 9223372036854775808) (w : World) : Calls Tryd.prog 48 #[.int .u64 u] w (Same (.int .u64 ((u + 3) / 4 : Nat)) w) := by
  have e1 : IntKind.u64.wrap ((u : Int) + 3) = (u : Int) + 3 := by rw [IntKind.wrap_u64]; omega
  have H := Lib.hid hu
  clear hu
  go_enter Tryd.func48, Tryd.ntmps48
  go_wp2_with fail
  go_ret
  refine ⟨?_, rfl⟩
  simp
theorem floor43 (u : Nat) (hu : u < 9223372036854775808) (w : World) : Calls Tryd.prog 49 #[.int .u64 u] w (Same (.int .u64 (u / 4 : Nat)) w) := by
  have e1 : IntKind.u64.wrap (u : Int) = (u : Int) := by rw [IntKind.wrap_u64]; omega
  have H := Lib.hid hu
  clear hu
  go_enter Tryd.func49, Tryd.ntmps49
  go_wp2_with fail
  go_ret
  refine ⟨?_, rfl⟩
  simp
theorem round44 (u : Nat) (hu : u < 9223372036854775808) (w : World) : Calls Tryd.prog 50 #[.int .u64 u] w (Same (.int .u64 ((u + 1 + u / 4 % 2) / 4 : Nat)) w) := by
  have e1 : IntKind.u64.wrap ((u : Int) + 1) = (u : Int) + 1 := by rw [IntKind.wrap_u64]; omega
  have e2 : bits .and .u64 ((u : Int) / 4) 1 = ((u / 4 % 2 : Nat) : Int) := by
    have h := bits_and_u64_nat (u / 4) 1 (by omega) (by omega)
    rw [Nat.and_one_is_mod] at h
    simpa using h
  obtain ⟨p, hp⟩ : ∃ p, p = u / 4 % 2 := ⟨_, rfl⟩
  rw [← hp] at e2
  have e3 : IntKind.u64.wrap ((u : Int) + 1 + (p : Int)) = (u : Int) + 1 + (p : Int) := by rw [IntKind.wrap_u64]; omega
  rw [← hp]
  have H := Lib.hid (And.intro hu hp)
  clear hu hp
  go_enter Tryd.func50, Tryd.ntmps50
  go_wp2_with fail
  go_ret
  refine ⟨?_, rfl⟩
  simp
end Go.Proofs.YtmlgfhdjdmfdbaaDoor
