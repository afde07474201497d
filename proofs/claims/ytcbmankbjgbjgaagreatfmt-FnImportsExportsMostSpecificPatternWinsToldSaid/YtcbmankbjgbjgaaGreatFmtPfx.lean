/-
  Proved: contract of the law's own zzHasPrefix. No statement of the seat stands here.
-/
import Derived.Test.YtcbmankbjgbjgaaGreatFmtFind
import Derived.Lib.Strings
namespace Go.Proofs.YtcbmankbjgbjgaaGreatFmt
open Go.RowKit Go.ChangeAt
set_option linter.unusedSimpArgs false
set_option linter.unusedVariables false
set_option maxRecDepth 100000
def intP : Value → Int | .int _ q => q | _ => 0
theorem bt_list (s : ByteArray) (i : Nat) (h : i < s.data.toList.length) : (s.data.toList[i]).toNat = bt s i := by
  have h2 : i < s.size := by rw [Array.length_toList] at h; exact h
  rw [← bt_eq s i h2]
  rfl
theorem pfx_iff (s p : ByteArray) : Lib.hasPrefix s.data.toList p.data.toList = true ↔ p.size ≤ s.size ∧ ∀ i, i < p.size → bt s i = bt p i := by
  have ls : s.data.toList.length = s.size := by rw [Array.length_toList]; rfl
  have lp : p.data.toList.length = p.size := by rw [Array.length_toList]; rfl
  unfold Lib.hasPrefix
  rw [List.isPrefixOf_iff_prefix, List.prefix_iff_eq_take]
  constructor
  · intro h
    have hle : p.size ≤ s.size := by
      have := congrArg List.length h
      rw [List.length_take] at this
      omega
    refine ⟨hle, fun i hi => ?_⟩
    rw [← bt_list s i (by omega), ← bt_list p i (by omega)]
    have h2 := congrArg (fun l => l[i]?) h
    rw [List.getElem?_take_of_lt (by omega), List.getElem?_eq_getElem (by omega), List.getElem?_eq_getElem (by omega)] at h2
    injection h2 with h2
    rw [h2]
  · rintro ⟨hle, h⟩
    refine List.ext_getElem (by rw [List.length_take]; omega) fun i h1 h2 => ?_
    rw [List.getElem_take]
    apply UInt8.toNat_inj.1
    rw [bt_list p i h1, bt_list s i (by omega)]
    exact (h i (by omega)).symm
def PfxOut (s p : ByteArray) (w : World) (e : Ending) (w' : World) : Prop := e = .returned (.bool (Lib.hasPrefix s.data.toList p.data.toList)) ∧ Chg Nowhere w w'
theorem pfx_eq {s p : ByteArray} {r : Bool} (h : r = true ↔ p.size ≤ s.size ∧ ∀ i, i < p.size → bt s i = bt p i) : Lib.hasPrefix s.data.toList p.data.toList = r := by
  have h2 := pfx_iff s p
  cases hr : Lib.hasPrefix s.data.toList p.data.toList <;> cases r
  · rfl
  · have := h2.2 (h.1 rfl); rw [hr] at this; cases this
  · have := h.2 (h2.1 hr); cases this
  · rfl
theorem pre20x (s p : ByteArray) (w : World) (hs : s.size ≤ 1048576) (hp : p.size ≤ 1048576) : Calls Tryz.prog 20 #[.string s, .string p] w (PfxOut s p w) := by
  have HP : Hid (∀ r : Bool, (r = true ↔ p.size ≤ s.size ∧ ∀ i, i < p.size → bt s i = bt p i) → Lib.hasPrefix s.data.toList p.data.toList = r) := Lib.hid fun r h => pfx_eq h
  by_cases h0 : s.size < p.size
  · have x0 : (s.size : Int) < (p.size : Int) := by omega
    go_enter Tryz.func20, Tryz.ntmps20
    go_wp2_with fail
    go_ret
    exact ⟨by rw [HP.out false ⟨fun h => (by cases h), fun h => by have := h.1; omega⟩]; rfl, Chg.refl _ _⟩
  · have x0 : ¬ (s.size : Int) < (p.size : Int) := by omega
    have hle : p.size ≤ s.size := by omega
    clear h0
    go_enter Tryz.func20, Tryz.ntmps20
    go_wp2_with fail
    go_loopw [5] (fun i wr => (∃ j : Nat, j ≤ p.size ∧ i = .int .i64 j ∧ ∀ k, k < j → bt s k = bt p k) ∧ Chg Nowhere w wr) (fun i _ => p.size - (intP i).toNat)
    case atStart => exact ⟨⟨0, by omega, rfl, fun k hk => by omega⟩, Chg.refl _ _⟩
    case round =>
      obtain ⟨⟨j, hj, rfl, hall⟩, hch⟩ := hrel
      have Hch := Lib.hid hch
      have Hall := Lib.hid hall
      clear hch hall
      by_cases hlt : j < p.size
      · have x1 : (j : Int) < (p.size : Int) := by omega
        have x2 : (0 : Int) ≤ (j : Int) := by omega
        have x3 : (j : Int) < (s.size : Int) := by omega
        have hjs : j < s.size := by omega
        have b0 := bt_eq s j hjs
        have b1 := bt_eq p j hlt
        by_cases hb : bt s j = bt p j
        · have e1 : ((bt s j : Int) != (bt p j : Int)) = false := by simp; omega
          have Hb := Lib.hid hb
          clear hb
          go_wp2_with fail
          go_region
          go_wp2_with fail
          go_roundw
          case rel => exact ⟨⟨j + 1, by omega, by go_num, fun k hk => by
            by_cases e : k = j
            · subst e; exact Hb.out
            · exact Hall.out k (by omega)⟩, Hch.out.drew⟩
          case measure => simp [intP]; omega
        · have e1 : ((bt s j : Int) != (bt p j : Int)) = true := by simp; omega
          have Hb := Lib.hid hb
          clear hb
          go_wp2_with fail
          go_region
          go_wp2_with fail
          go_ret
          exact ⟨by rw [HP.out false ⟨fun h => (by cases h), fun h => absurd (h.2 j hlt) Hb.out⟩]; rfl, Hch.out.drew⟩
      · have x1 : ¬ (j : Int) < (p.size : Int) := by omega
        go_wp2_with fail
        go_ret
        exact ⟨by rw [HP.out true ⟨fun _ => ⟨hle, fun i hi => Hall.out i (by omega)⟩, fun _ => rfl⟩]; rfl, Hch.out⟩
end Go.Proofs.YtcbmankbjgbjgaaGreatFmt
