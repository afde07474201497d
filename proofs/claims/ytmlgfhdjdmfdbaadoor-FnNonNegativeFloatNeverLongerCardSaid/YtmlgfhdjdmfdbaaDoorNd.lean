/-
  Proved: contract of parseSmallInt at digits, with a minus or without. No statement of the seat stands here.
-/
import Derived.Test.YtmlgfhdjdmfdbaaDoorNc
import Derived.Test.YtmlgfhdjdmfdbaaDoorFtO
namespace Go.Proofs.YtmlgfhdjdmfdbaaDoor
open Go.RowKit Go.ChangeAt
set_option linter.unusedSimpArgs false
set_option linter.unusedVariables false
set_option maxRecDepth 100000
def pv (l : List UInt8) : Nat := l.foldl (fun a c => a * 10 + (c.toNat - 48)) 0
theorem pv_step (l : List UInt8) (p : Nat) (h : p < l.length) : pv (l.take (p + 1)) = pv (l.take p) * 10 + (nb l p - 48) := by
  unfold pv nb
  rw [List.take_add_one, List.foldl_append, List.getElem?_eq_getElem h, List.getD_eq_getElem?_getD, List.getElem?_eq_getElem h]
  rfl
theorem pv_bd (l : List UInt8) : ∀ (p : Nat), p ≤ 3 → (∀ j, j < l.length → 48 ≤ nb l j ∧ nb l j ≤ 57) → p ≤ l.length → pv (l.take p) < 10 ^ p
  | 0, _, _, _ => by simp [pv]
  | p + 1, h3, hd, hl => by
    have ih := pv_bd l p (by omega) hd (by omega)
    have hs := pv_step l p (by omega)
    have hdp := hd p (by omega)
    rw [hs, Nat.pow_succ]
    omega
theorem pv_lt (l : List UInt8) (h3 : l.length ≤ 3) (hd : ∀ j, j < l.length → 48 ≤ nb l j ∧ nb l j ≤ 57) : pv l < 1000 := by
  have h := pv_bd l l.length h3 hd (Nat.le_refl _)
  rw [List.take_length] at h
  have h2 : 10 ^ l.length ≤ 10 ^ 3 := Nat.pow_le_pow_right (by omega) h3
  omega
theorem wrap_small (x : Int) (h1 : -1000000 ≤ x) (h2 : x ≤ 1000000) : wrap64 x = x := by unfold wrap64; omega
theorem step_val (v d p : Nat) (h : v < 10 ^ p) (hp : p ≤ 2) (hd : d ≤ 9) : wrap64 (wrap64 ((v : Int) * 10) + (48 + (d : Int) - 48)) = ((v * 10 + (48 + d - 48) : Nat) : Int) := by
  have h1 : 10 ^ p ≤ 10 ^ 2 := Nat.pow_le_pow_right (by decide) hp
  have h2 : (10 : Nat) ^ 2 = 100 := by decide
  rw [h2] at h1
  have hv : v < 100 := Nat.lt_of_lt_of_le h h1
  clear h h1 h2
  rw [wrap_small ((v : Int) * 10) (by omega) (by omega), wrap_small ((v : Int) * 10 + (48 + (d : Int) - 48)) (by omega) (by omega)]
  omega
set_option maxHeartbeats 4000000 in
theorem parse_pos (B g off cap : Nat) (ds : List UInt8) (w : World) (hR : Row B g off cap (ds) w) (hl : 1 ≤ ds.length ∧ ds.length ≤ 3) (hd : ∀ j, j < ds.length → 48 ≤ nb ds j ∧ nb ds j ≤ 57) :
    Calls Tryd.prog 14 #[.slice (some ⟨g, off, none⟩) (ds.length) cap] w (Same' (.int .i64 ((pv ds : Nat) : Int)) w) := by
  have hlc := hR.len
  have hcb := hR.capb
  have hgl := hR.lt
  have hc0 := hR.nb 0 (by omega)
  rw [Nat.add_zero] at hc0
  have h0 := hd 0 (by omega)
  have hq0 : (((nb ds 0 : Nat) : Int) == 45) = false := by simp; omega
  clear h0
  have hcs : ∀ j, j < ds.length → w.cell? ⟨g, off + j, none⟩ = some (.int .u8 ((nb ds j : Nat) : Int)) := fun j hj => hR.nb j hj
  have hpv := pv_lt ds hl.2 hd
  have hwn : wrap64 (-((pv ds : Nat) : Int)) = -((pv ds : Nat) : Int) := by unfold wrap64; omega
  have Hcs := Lib.hid hcs
  have Hd := Lib.hid hd
  clear hcs hR hd
  go_enter Tryd.func14, Tryd.ntmps14
  go_wp2_with fail
  go_loopw [16, 4, 6] (fun c16 c4 c6 wr => wr = w ∧ ∃ p : Nat, p ≤ ds.length ∧ c16 = .int .i64 (p : Int) ∧ c4 = .int .i64 ((pv (ds.take p) : Nat) : Int)) (fun c16 _ _ _ => ds.length - (intOf c16).toNat)
  case atStart => exact ⟨rfl, 0, by omega, rfl, rfl⟩
  case round =>
    obtain ⟨rfl, p, hp, rfl, rfl⟩ := hrel
    by_cases hlt : p < ds.length
    · have hcell := Hcs.out p hlt
      have hdig := Hd.out p hlt
      have hst := pv_step ds p hlt
      have hbd := pv_bd ds p (by omega) Hd.out (by omega)
      have hx0 : (0 : Int) ≤ (p : Int) := by omega
      have hx1 : (p : Int) < (ds.length : Int) := by omega
      obtain ⟨x, hx⟩ : ∃ x, nb ds p = x := ⟨_, rfl⟩
      obtain ⟨v, hv⟩ : ∃ v, pv (ds.take p) = v := ⟨_, rfl⟩
      rw [hx] at hcell hdig hst
      rw [hv] at hst hbd ⊢
      have Hst := Lib.hid hst
      clear hx hv hst
      obtain ⟨d, rfl⟩ : ∃ d, x = 48 + d := ⟨x - 48, by omega⟩
      have hxs : ((48 + d : Nat) : Int) - 48 = (d : Int) := by omega
      go_wp2_with fail
      go_roundw
      case rel =>
        refine ⟨trivial, p + 1, by omega, by go_num, ?_⟩
        rw [Hst.out]
        exact congrArg (Value.int .i64) (step_val v d p hbd (by omega) (by omega))
      case measure => simp [intOf]; omega
    · obtain rfl : p = ds.length := by omega
      rw [List.take_length]
      go_wp2_with fail
      go_ret
      exact ⟨rfl, rfl⟩
set_option maxHeartbeats 4000000 in
theorem parse_neg (B g off cap : Nat) (ds : List UInt8) (w : World) (hR : Row B g off cap (45 :: ds) w) (hl : 1 ≤ ds.length ∧ ds.length ≤ 3) (hd : ∀ j, j < ds.length → 48 ≤ nb ds j ∧ nb ds j ≤ 57) :
    Calls Tryd.prog 14 #[.slice (some ⟨g, off, none⟩) (ds.length + 1) cap] w (Same' (.int .i64 (-((pv ds : Nat) : Int))) w) := by
  have hlc := hR.len
  have hcb := hR.capb
  simp only [List.length_cons] at hlc
  have hgl := hR.lt
  have hc0 := hR.nb 0 (by simp)
  rw [Nat.add_zero] at hc0
  have hq0 : (((nb (45 :: ds) 0 : Nat) : Int) == 45) = true := by show (((45 : Nat) : Int) == 45) = true; decide
  have hcs : ∀ j, j < ds.length → w.cell? ⟨g, off + 1 + j, none⟩ = some (.int .u8 ((nb ds j : Nat) : Int)) := fun j hj => by
    have := hR.nb (1 + j) (by simp; omega)
    rw [show off + 1 + j = off + (1 + j) by omega, this]
    congr 3
    unfold nb
    rw [Nat.add_comm 1 j]
    rfl
  have hpv := pv_lt ds hl.2 hd
  have hwn : wrap64 (-((pv ds : Nat) : Int)) = -((pv ds : Nat) : Int) := by unfold wrap64; omega
  have Hcs := Lib.hid hcs
  have Hd := Lib.hid hd
  clear hcs hR hd
  go_enter Tryd.func14, Tryd.ntmps14
  go_wp2_with fail
  go_loopw [16, 4, 6] (fun c16 c4 c6 wr => wr = w ∧ ∃ p : Nat, p ≤ ds.length ∧ c16 = .int .i64 (p : Int) ∧ c4 = .int .i64 ((pv (ds.take p) : Nat) : Int)) (fun c16 _ _ _ => ds.length - (intOf c16).toNat)
  case atStart => exact ⟨rfl, 0, by omega, rfl, rfl⟩
  case round =>
    obtain ⟨rfl, p, hp, rfl, rfl⟩ := hrel
    by_cases hlt : p < ds.length
    · have hcell := Hcs.out p hlt
      have hdig := Hd.out p hlt
      have hst := pv_step ds p hlt
      have hbd := pv_bd ds p (by omega) Hd.out (by omega)
      have hx0 : (0 : Int) ≤ (p : Int) := by omega
      have hx1 : (p : Int) < (ds.length : Int) := by omega
      obtain ⟨x, hx⟩ : ∃ x, nb ds p = x := ⟨_, rfl⟩
      obtain ⟨v, hv⟩ : ∃ v, pv (ds.take p) = v := ⟨_, rfl⟩
      rw [hx] at hcell hdig hst
      rw [hv] at hst hbd ⊢
      have Hst := Lib.hid hst
      clear hx hv hst
      obtain ⟨d, rfl⟩ : ∃ d, x = 48 + d := ⟨x - 48, by omega⟩
      have hxs : ((48 + d : Nat) : Int) - 48 = (d : Int) := by omega
      go_wp2_with fail
      go_roundw
      case rel =>
        refine ⟨trivial, p + 1, by omega, by go_num, ?_⟩
        rw [Hst.out]
        exact congrArg (Value.int .i64) (step_val v d p hbd (by omega) (by omega))
      case measure => simp [intOf]; omega
    · obtain rfl : p = ds.length := by omega
      rw [List.take_length]
      go_wp2_with fail
      go_ret
      exact ⟨rfl, rfl⟩
end Go.Proofs.YtmlgfhdjdmfdbaaDoor
