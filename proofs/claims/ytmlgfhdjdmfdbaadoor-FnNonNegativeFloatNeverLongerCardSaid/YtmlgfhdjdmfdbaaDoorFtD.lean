/-
  Proved: contract of setDigits of Go's float formatting: the decimal digits, and how many are left without the last zeros. No condition; no statement of the seat stands here.
-/
import Derived.Test.YtmlgfhdjdmfdbaaDoorFtC
import Derived.Lib.ItoaMem
namespace Go.Proofs.YtmlgfhdjdmfdbaaDoor
open Go.RowKit Go.ChangeAt Go.Sort
set_option linter.unusedSimpArgs false
set_option linter.unusedVariables false
set_option maxRecDepth 100000
/-- The digits up to n, without the last zeros. -/
def cut (ds : List UInt8) : Nat → Nat
  | 0 => 0
  | n + 1 => if ds.getD n 0 = 48 then cut ds n else n + 1
theorem cut_le (ds : List UInt8) : ∀ n, cut ds n ≤ n
  | 0 => Nat.le_refl _
  | n + 1 => by unfold cut; split; exact Nat.le_succ_of_le (cut_le ds n); exact Nat.le_refl _
theorem chg_putRow (enc : UInt8 → Value) (w : World) (g o : Nat) (d : Array UInt8) : Chg (fun k => k = g) w (putRow enc w g o d) := by
  refine ⟨rfl, rfl, rfl, by simp, fun k hk hn => ?_⟩
  unfold putRow mapBlock
  simp only [Array.getElem?_modify]
  rw [if_neg (fun h => hn h.symm)]
/-- The block g holds the digits ds from its start on. -/
def Digs (w : World) (g : Nat) (ds : List UInt8) : Prop := ∀ j, j < ds.length → w.cell? ⟨g, j, none⟩ = some (.int .u8 ((ds.getD j 0).toNat : Int))
def DigOut (g u : Nat) (dp : Int) (w : World) (e : Ending) (w' : World) : Prop := e = .returned (.tuple #[.int .i64 dp, .int .i64 (cut (Lib.decDigits u) (Lib.nDigits u) : Nat)]) ∧ Digs w' g (Lib.decDigits u) ∧ Chg (fun k => k = g) w w'
set_option maxHeartbeats 4000000 in
theorem setd26 (g u nd : Nat) (p dp : Int) (w : World) (hz : ∀ j, j < 32 → w.cell? ⟨g, j, none⟩ = some (.int .u8 0)) (hf : ∀ j, w.frozen? ⟨g, j, none⟩ = false) (hnd : nd = Lib.nDigits u) (h32 : nd ≤ 32) (hu64 : u < 18446744073709551616) (hdp : (nd : Int) + p = dp) (hp : -4000 ≤ p ∧ p ≤ 4000) :
    Calls Tryd.prog 29 #[.slice (some ⟨g, 0, none⟩) 32 32, .int .u64 u, .int .i64 p, .int .i64 nd] w (DigOut g u dp w) := by
  have hH : Holds (fun (b : UInt8) => Value.int .u8 (b.toNat : Int)) w g 0 (Array.replicate nd (0 : UInt8)) := fun j hj => by
    have hj' : j < nd := by simpa using hj
    refine ⟨?_, hf _⟩
    rw [Nat.zero_add, hz j (by omega), getElem!_pos _ j hj]
    simp
  have hb := Tryd.internal_strconv_formatBase10 g 0 32 u (Array.replicate nd (0 : UInt8)) w hH (by rw [Array.size_replicate, hnd]; exact Lib.lt_pow_nDigits u) hu64 (by rw [Array.size_replicate]; omega)
  rw [Array.size_replicate] at hb
  have HB := Lib.hid hb
  have HH := Lib.hid hH
  have HN := Lib.hid (And.intro hnd hu64)
  clear hb hH hz hnd hu64
  have e1 : (nd : Int) ≤ 32 := by omega
  go_enter Tryd.func29, Tryd.ntmps29
  go_wp2_with fail
  refine HB.out.mono ?_
  rintro e2 w2 ⟨rfl, n, v', dk, rfl, hI⟩
  have hsz : dk.size = nd := hI.size
  have hD : Digs ((putRow (fun (b : UInt8) => Value.int .u8 (b.toNat : Int)) w g 0 dk).drewN n) g (Lib.decDigits u) := fun j hj => by
    have hj' := hj
    rw [Lib.decDigits_length, ← HN.out.1] at hj
    have h := cell?_putRow (fun (b : UInt8) => Value.int .u8 (b.toNat : Int)) w g 0 (Array.replicate nd (0 : UInt8)) dk HH.out (by rw [hsz, Array.size_replicate]) j (by omega)
    rw [Nat.zero_add] at h
    have hI' := hI
    rw [HN.out.1] at hI'
    rw [show (Lib.decDigits u).getD j 0 = dk[j]! by rw [List.getD_eq_getElem?_getD, List.getElem?_eq_getElem hj', Option.getD_some]; exact Lib.row_is_numeral hI' j hj']
    exact h
  have hC : Chg (fun k => k = g) w ((putRow (fun (b : UInt8) => Value.int .u8 (b.toNat : Int)) w g 0 dk).drewN n) := (chg_putRow _ w g 0 dk).drewN n
  generalize (putRow (fun (b : UInt8) => Value.int .u8 (b.toNat : Int)) w g 0 dk).drewN n = w2 at hD hC ⊢
  have HC := Lib.hid hC
  have HD := Lib.hid hD
  have hlen : (Lib.decDigits u).length = nd := by rw [Lib.decDigits_length]; exact HN.out.1.symm
  have HL := Lib.hid hlen
  clear hC hD hI hsz hlen
  go_wp2_with fail
  go_loop [3] (fun kv => ∃ k : Nat, kv = .int .i64 k ∧ k ≤ nd ∧ cut (Lib.decDigits u) nd = cut (Lib.decDigits u) k) (fun kv => (intOf kv).toNat)
  case atStart => exact ⟨nd, rfl, Nat.le_refl _, rfl⟩
  case round =>
    obtain ⟨k, rfl, hk, hcut⟩ := hrel
    have HK := Lib.hid hcut
    clear hcut
    rcases Nat.eq_zero_or_pos k with rfl | hpos
    · have hx : ¬ (0 : Int) < ((0 : Nat) : Int) := by omega
      go_wp2_with fail
      go_ret2
      refine ⟨?_, HD.out, HC.out⟩
      have hc : cut (Lib.decDigits u) (Lib.nDigits u) = 0 := by rw [← HN.out.1, HK.out]; rfl
      rw [hc]; rfl
    · obtain ⟨k, rfl⟩ : ∃ k', k = k' + 1 := ⟨k - 1, by omega⟩
      have hcell := HD.out k (by have := HL.out; omega)
      have hx : (0 : Int) < (k : Int) + 1 := by omega
      have hx1 : (k : Int) < 32 := by omega
      have hx0 : (0 : Int) ≤ (k : Int) := by omega
      by_cases h48 : (Lib.decDigits u).getD k 0 = 48
      · rw [h48] at hcell
        have hcell' : w2.cell? ⟨g, k, none⟩ = some (.int .u8 48) := hcell
        have H48 := Lib.hid h48
        clear hcell h48
        go_wp2_with fail
        go_round
        case rel => exact ⟨k, by go_num, by omega, by rw [HK.out]; show (if (Lib.decDigits u).getD k 0 = 48 then cut (Lib.decDigits u) k else k + 1) = _; rw [if_pos H48.out]⟩
        case measure => simp [intOf]
      · have hne : (((Lib.decDigits u).getD k 0).toNat : Int) ≠ 48 := fun h => h48 (UInt8.toNat_inj.1 (by show _ = 48; omega))
        have H48 := Lib.hid h48
        generalize (((Lib.decDigits u).getD k 0).toNat : Int) = b at hcell hne
        have hne' : (b == 48) = false := beq_eq_false_iff_ne.2 hne
        clear h48 hne
        go_wp2_with fail
        go_ret2
        refine ⟨?_, HD.out, HC.out⟩
        have hc : cut (Lib.decDigits u) (Lib.nDigits u) = k + 1 := by
          rw [← HN.out.1, HK.out]; show (if (Lib.decDigits u).getD k 0 = 48 then cut (Lib.decDigits u) k else k + 1) = _; rw [if_neg H48.out]
        rw [hc]; rfl
end Go.Proofs.YtmlgfhdjdmfdbaaDoor
