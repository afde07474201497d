/-
  Proved: contracts of the law's own functions at this program (ZZpost, zzHexVal, zzDecode). No statement of the seat stands here.
-/
import Derived.Test.YtmhjhipldabaoaaFmtPost2
namespace Go.Proofs.YtmhjhipldabaoaaFmt
open Go.RowKit Go.ChangeAt
set_option linter.unusedSimpArgs false
set_option linter.unusedVariables false
def HexOut (c : Nat) (w : World) (e : Ending) (w' : World) : Prop := (isHex c = true → e = .returned (.tuple #[.int .u8 (hexV c), .bool true])) ∧ (isHex c = false → e = .returned (.tuple #[.int .u8 0, .bool false])) ∧ w = w'
theorem hexOut_yes {c : Nat} {w : World} {v : Int} (h : isHex c = true) (hv : v = hexV c) : HexOut c w (.returned (.tuple #[.int .u8 v, .bool true])) w := by
  subst hv
  exact ⟨fun _ => rfl, fun h' => (by rw [h] at h'; cases h'), rfl⟩
theorem hexOut_no {c : Nat} {w : World} (h : isHex c = false) : HexOut c w (.returned (.tuple #[.int .u8 0, .bool false])) w :=
  ⟨fun h' => (by rw [h] at h'; cases h'), fun _ => rfl, rfl⟩
theorem hexV1 {c : Nat} (h : 48 ≤ (c : Int)) (h2 : (c : Int) ≤ 57) : (c : Int) - 48 = (hexV c : Nat) := by
  unfold hexV
  rw [if_pos (by omega)]
  omega
theorem hexV2 {c : Nat} (h : 65 ≤ (c : Int)) (h2 : (c : Int) ≤ 70) : (c : Int) - 65 + 10 = (hexV c : Nat) := by
  unfold hexV
  rw [if_neg (by omega), if_pos (by omega)]
  omega
theorem hexV3 {c : Nat} (h : 97 ≤ (c : Int)) (h2 : (c : Int) ≤ 102) : (c : Int) - 97 + 10 = (hexV c : Nat) := by
  unfold hexV
  rw [if_neg (by omega), if_neg (by omega)]
  omega
theorem hex_any (c : Nat) (hc : c < 256) (w : World) : Calls Tryf.prog 21 #[.int .u8 c] w (HexOut c w) := by
  go_enter Tryf.func21, Tryf.ntmps21
  go_wp2
  all_goals (
    go_ret2
    first
      | exact hexOut_no (by simp [isHex]; omega)
      | exact hexOut_yes (by simp [isHex]; omega) (hexV1 (by omega) (by omega))
      | exact hexOut_yes (by simp [isHex]; omega) (hexV2 (by omega) (by omega))
      | exact hexOut_yes (by simp [isHex]; omega) (hexV3 (by omega) (by omega)))
theorem hex_yes (c : Nat) (hc : c < 256) (h : isHex c = true) (w : World) : Calls Tryf.prog 21 #[.int .u8 c] w fun e w' => e = .returned (.tuple #[.int .u8 (hexV c), .bool true]) ∧ w = w' :=
  (hex_any c hc w).mono fun _ _ ⟨h1, _, h3⟩ => ⟨h1 h, h3⟩
theorem hex_no (c : Nat) (hc : c < 256) (h : isHex c = false) (w : World) : Calls Tryf.prog 21 #[.int .u8 c] w fun e w' => e = .returned (.tuple #[.int .u8 0, .bool false]) ∧ w = w' :=
  (hex_any c hc w).mono fun _ _ ⟨_, h2, h3⟩ => ⟨h2 h, h3⟩
theorem results_tmp6 {fn : Func} {t u v x y z : Tmp} (h : fn.results = #[.tmp t, .tmp u, .tmp v, .tmp x, .tmp y, .tmp z]) (tmps : Array Value) (P : Program) (w : World) :
    (results fn tmps).run P w = .ok (.tuple #[tmps.getD t undef, tmps.getD u undef, tmps.getD v undef, tmps.getD x undef, tmps.getD y undef, tmps.getD z undef]) w := by simp [results, h]
theorem bel_drewN {B : Nat} {w w' : World} (h : Below B w w') (n : Nat) : Below B w (w'.drewN n) := ⟨h.os, h.tape, h.output, h.size, h.block⟩
def ZOut (o : ByteArray) (st : Nat) (b : ByteArray) (x y : Int) (n : Bool) (w : World) (e : Ending) (w' : World) : Prop :=
  e = .returned (.tuple #[.string o, .int .u8 st, .string b, .int .i32 x, .int .i32 y, .bool n]) ∧ Below w.heap.size w w'
theorem zzpost_any (s b : ByteArray) (hs : s.size ≤ 1048576) (x y : Int) (n : Bool) (st : Nat) (hst : st < 256) (w : World) (hw0 : 0 < w.heap.size) (hT : HexTab w) :
    Calls Tryf.prog 7 #[.string s, .int .u8 st, .string b, .int .i32 x, .int .i32 y, .bool n] w (ZOut (post s st).1 (post s st).2 b x y n w) := by
  have HT := Lib.hid hT
  clear hT
  have Hp := Lib.hid (post_any s b hs x y n st hst (w.alloc (.cells #[.string b, .slice none 0 0, .int .i32 x, .int .i32 y, .bool n] 36)) (by simp) (HT.out.below (bel_alloc (Below.refl _ w) _) hw0))
  generalize post s st = r at Hp ⊢
  obtain ⟨o, st2⟩ := r
  go_enter Tryf.func7, Tryf.ntmps7
  go_wp2_with fail
  refine Hp.out.mono ?_
  rintro e w1 ⟨rfl, hb⟩
  have Hb : Hid (Below w.heap.size w w1) := (bel_alloc (Below.refl _ w) _).trans (hb.mono (by simp))
  clear hb Hp
  unfold dbg
  go_wp2
  go_quiet (fail)
  go_wp2
  refine bodyPost_ret (v := .tuple #[.string o, .int .u8 st2, .string b, .int .i32 x, .int .i32 y, .bool n]) ((results_tmp6 (fn := Tryf.f7) (t := 12) (u := 13) (v := 14) (x := 15) (y := 16) (z := 17) (by rfl) _ _ _).trans (by rfl)) rfl ⟨rfl, bel_drewN (bel_alloc Hb.out _) _⟩
end Go.Proofs.YtmhjhipldabaoaaFmt
