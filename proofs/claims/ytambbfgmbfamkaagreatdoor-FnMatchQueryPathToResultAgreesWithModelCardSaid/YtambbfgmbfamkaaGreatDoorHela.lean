/-
  Proved: contracts of the law's small helpers: zzValidRel, zzIndexSlash, zzHasPrefix. No statement of the seat stands here.
-/
import Derived.Test.YtambbfgmbfamkaaGreatDoorHelp
import Derived.Lib.IndexLaws
import Derived.Lib.Bytealg
namespace Go.Proofs.YtambbfgmbfamkaaGreatDoor
open Go.RowKit Go.ChangeAt
set_option linter.unusedSimpArgs false
set_option linter.unusedVariables false
set_option maxRecDepth 100000
theorem rel13 (s : ByteArray) (w : World) (hs : s.size ≤ 1048576) : Calls Tryz.prog 13 #[.string s] w (RelOut s w) := by
  have HS := Lib.hid (fun (a k : Nat) (hk : k ≤ s.size) w => seg16 (s.extract a k) w (by rw [ByteArray.size_extract]; omega))
  go_enter Tryz.func13, Tryz.ntmps13
  go_wp2_with fail
  go_loop [3, 4] (fun x i => ∃ a k : Nat, a ≤ k ∧ k ≤ s.size + 1 ∧ x = .int .i64 a ∧ i = .int .i64 k ∧ (∀ j, a ≤ j → j < k → bt s j ≠ 47) ∧ Kept s a ∧ (k = s.size + 1 → Rel s.data.toList)) (fun x i => s.size + 1 - (intOf i).toNat)
  case atStart => exact ⟨0, 0, by omega, by omega, rfl, rfl, fun j hj h => by omega, fun h => by rw [List.drop_zero] at h; exact h, fun h => by omega⟩
  case round =>
    obtain ⟨a, k, hak, hk, rfl, rfl, hno, hK, hR⟩ := hrel
    have Hno := Lib.hid hno
    have HK := Lib.hid hK
    have HR := Lib.hid hR
    clear hno hK hR
    by_cases hle : k ≤ s.size
    · have hx : (k : Int) ≤ (s.size : Int) := by omega
      have hx0 : (0 : Int) ≤ (k : Int) := by omega
      have hx1 : (0 : Int) ≤ (a : Int) := by omega
      have hx2 : (a : Int) ≤ (k : Int) := by omega
      by_cases hlt : k < s.size
      · have hb := bt_eq s k hlt
        have hxe : ((k : Int) == (s.size : Int)) = false := beq_eq_false_iff_ne.2 (by omega)
        have hxl : (k : Int) < (s.size : Int) := by omega
        by_cases h4 : bt s k = 47
        · have h4' : ((bt s k : Int) == 47) = true := beq_iff_eq.2 (by omega)
          have H4 := Lib.hid h4
          clear h4
          go_wp2_with fail
          refine (HS.out a k hle _).mono ?_
          rintro e1 w1 ⟨r, rfl, rfl, hr⟩
          have Hr := Lib.hid hr
          clear hr
          cases r
          · go_wp2_with fail
            go_ret
            exact ⟨false, rfl, rfl, fun h => by cases h⟩
          · go_wp2_with fail
            go_round
            case rel => exact ⟨k + 1, k + 1, by omega, by omega, by go_num, by go_num, fun j h1 h2 => by omega, kept_step s a k hak hlt H4.out Hno.out (Hr.out (by first | rfl | trivial)) HK.out, fun h => by omega⟩
            case measure => first | (simp [intOf]; done) | (simp [intOf]; omega)
        · have h4' : ((bt s k : Int) == 47) = false := beq_eq_false_iff_ne.2 (by omega)
          have H4 := Lib.hid h4
          clear h4
          go_wp2_with fail
          go_round
          case rel => exact ⟨a, k + 1, by omega, by omega, rfl, by go_num, fun j h1 h2 => by
            by_cases e : j = k
            · subst e; exact H4.out
            · exact Hno.out j h1 (by omega), HK.out, fun h => by omega⟩
          case measure => first | (simp [intOf]; done) | (simp [intOf]; omega)
      · obtain rfl : k = s.size := by omega
        have hxe : ((s.size : Int) == (s.size : Int)) = true := beq_iff_eq.2 rfl
        go_wp2_with fail
        refine (HS.out a s.size hle _).mono ?_
        rintro e1 w1 ⟨r, rfl, rfl, hr⟩
        have Hr := Lib.hid hr
        clear hr
        cases r
        · go_wp2_with fail
          go_ret
          exact ⟨false, rfl, rfl, fun h => by cases h⟩
        · go_wp2_with fail
          go_round
          case rel => exact ⟨s.size + 1, s.size + 1, by omega, by omega, by go_num, by go_num, fun j h1 h2 => by omega, fun _ => kept_end s a s.size hak rfl Hno.out (Hr.out (by first | rfl | trivial)) HK.out, fun _ => kept_end s a s.size hak rfl Hno.out (Hr.out (by first | rfl | trivial)) HK.out⟩
          case measure => first | (simp [intOf]; done) | (simp [intOf]; omega)
    · have hx : ¬ (k : Int) ≤ (s.size : Int) := by omega
      have hr := HR.out (by omega)
      have Hr := Lib.hid hr
      clear hr
      go_wp2_with fail
      go_ret
      exact ⟨true, rfl, rfl, fun _ => Hr.out⟩
theorem slash_at (s : ByteArray) (k : Nat) (hk : k < s.size) (hb : bt s k = 47) (h : ∀ j, j < k → bt s j ≠ 47) : Lib.indexByte s.data.toList 47 = k := by
  have hc : s.data.toList[k]? = some 47 := by
    rw [get_at_list s k hk, toNat_eq ((bt_eq s k hk).trans hb) (by decide)]
    rfl
  have hg := Lib.indexByte_ge s.data.toList 47
  by_cases h1 : Lib.indexByte s.data.toList 47 = -1
  · exact absurd hc (Lib.indexByte_none h1 k)
  · obtain ⟨o, ho⟩ : ∃ o : Nat, Lib.indexByte s.data.toList 47 = o := ⟨(Lib.indexByte s.data.toList 47).toNat, by omega⟩
    obtain ⟨h2, h3⟩ := Lib.indexByte_some ho
    have h4 : ¬ o < k := fun hl => h o hl (bt_list s o 47 h2)
    have h5 : ¬ k < o := fun hl => h3 k hl hc
    omega
theorem slash_none (s : ByteArray) (h : ∀ j, j < s.size → bt s j ≠ 47) : Lib.indexByte s.data.toList 47 = -1 := by
  have hg := Lib.indexByte_ge s.data.toList 47
  by_cases h1 : Lib.indexByte s.data.toList 47 = -1
  · exact h1
  · obtain ⟨o, ho⟩ : ∃ o : Nat, Lib.indexByte s.data.toList 47 = o := ⟨(Lib.indexByte s.data.toList 47).toNat, by omega⟩
    obtain ⟨h2, h3⟩ := Lib.indexByte_some ho
    have h4 : o < s.size := by rw [← len_list]; exact (List.getElem?_eq_some_iff.1 h2).1
    exact absurd (bt_list s o 47 h2) (h o h4)
/-- The first slash, or -1. -/
def IntOut (r : Int) (w : World) (e : Ending) (w' : World) : Prop := e = .returned (.int .i64 r) ∧ w = w'
theorem idx11 (s : ByteArray) (w : World) (hs : s.size ≤ 1048576) : Calls Tryz.prog 11 #[.string s] w (IntOut (Lib.indexByte s.data.toList 47) w) := by
  go_enter Tryz.func11, Tryz.ntmps11
  go_wp2_with fail
  go_loop [3] (fun i => ∃ k : Nat, k ≤ s.size ∧ i = .int .i64 k ∧ ∀ j, j < k → bt s j ≠ 47) (fun i => s.size - (intOf i).toNat)
  case atStart => exact ⟨0, by omega, rfl, fun j hj => by omega⟩
  case round =>
    obtain ⟨k, hk, rfl, hno⟩ := hrel
    have Hno := Lib.hid hno
    clear hno
    by_cases hlt : k < s.size
    · have hb := bt_eq s k hlt
      have hx : (k : Int) < (s.size : Int) := by omega
      have hx0 : (0 : Int) ≤ (k : Int) := by omega
      by_cases h4 : bt s k = 47
      · have h4' : ((bt s k : Int) == 47) = true := beq_iff_eq.2 (by omega)
        have H4 := Lib.hid h4
        clear h4
        go_wp2_with fail
        go_ret
        exact ⟨congrArg (fun z => Ending.returned (.int .i64 z)) (slash_at s k hlt H4.out Hno.out).symm, rfl⟩
      · have h4' : ((bt s k : Int) == 47) = false := beq_eq_false_iff_ne.2 (by omega)
        have H4 := Lib.hid h4
        clear h4
        go_wp2_with fail
        go_round
        case rel => exact ⟨k + 1, by omega, by go_num, fun j hj => by
          by_cases e : j = k
          · subst e; exact H4.out
          · exact Hno.out j (by omega)⟩
        case measure => first | (simp [intOf]; done) | (simp [intOf]; omega)
    · obtain rfl : k = s.size := by omega
      have hx : ¬ ((s.size : Int)) < (s.size : Int) := by omega
      go_wp2_with fail
      go_ret
      exact ⟨congrArg (fun z => Ending.returned (.int .i64 z)) (slash_none s Hno.out).symm, rfl⟩
/-- Whether p stands at s' head, in the law's own words. -/
def pre (s p : ByteArray) : Bool := decide (p.size ≤ s.size) && ((s.extract 0 p.size).toList == p.toList)
def BoolOut (r : Bool) (w : World) (e : Ending) (w' : World) : Prop := e = .returned (.bool r) ∧ w = w'
theorem pre10 (s p : ByteArray) (w : World) (h1 : s.size ≤ 4194304) (h2 : p.size ≤ 4194304) : Calls Tryz.prog 10 #[.string s, .string p] w (BoolOut (pre s p) w) := by
  unfold pre
  have hx0 : (0 : Int) ≤ (p.size : Int) := by omega
  by_cases h : p.size ≤ s.size
  · have hx : (p.size : Int) ≤ (s.size : Int) := by omega
    have hd : decide (p.size ≤ s.size) = true := decide_eq_true h
    rw [hd, Bool.true_and]
    obtain ⟨b, hb⟩ : ∃ b, b = ((s.extract 0 p.size).toList == p.toList) := ⟨_, rfl⟩
    rw [← hb]
    have HB := Lib.hid hb
    clear hb
    go_enter Tryz.func10, Tryz.ntmps10
    go_wp2_with fail
    all_goals (go_ret; exact ⟨congrArg (fun z => Ending.returned (.bool z)) HB.out.symm, rfl⟩)
  · have hx : ¬ (p.size : Int) ≤ (s.size : Int) := by omega
    have hd : decide (p.size ≤ s.size) = false := decide_eq_false h
    rw [hd, Bool.false_and]
    go_enter Tryz.func10, Tryz.ntmps10
    go_wp2_with fail
    all_goals (go_ret; exact ⟨rfl, rfl⟩)
end Go.Proofs.YtambbfgmbfamkaaGreatDoor
