/-
  Proved: contracts of findInvalidSegment. No statement of the seat stands here.
-/
import Derived.Test.YtcbmankbjgbjgaaGreatFmtFind
namespace Go.Proofs.YtcbmankbjgbjgaaGreatFmt
open Go.RowKit Go.ChangeAt
set_option linter.unusedSimpArgs false
set_option linter.unusedVariables false
set_option maxRecDepth 100000
/-- No separator stands in s. -/
def NoSep (s : ByteArray) : Prop := ∀ i, i < s.size → ¬ Sep s i
def StrOut (r : ByteArray) (w : World) (e : Ending) (w' : World) : Prop := e = .returned (.string r) ∧ Chg Nowhere w w'
set_option maxHeartbeats 8000000 in
theorem find38_none (s : ByteArray) (w : World) (hs : NoSep s) : Calls Tryz.prog 38 #[.string s] w (StrOut ⟨#[]⟩ w) := by
  have Hs := Lib.hid hs
  clear hs
  go_enter Tryz.func38, Tryz.ntmps38
  go_wp2_with fail
  refine (any48 s s.size (-1) w (Nat.le_refl _) Hs.out (fun h => by omega) (fun h => by omega) (fun _ => rfl)).mono ?_
  rintro e1 w1 ⟨rfl, hc⟩
  have Hc := Lib.hid hc
  clear hc
  go_wp2_with fail
  go_ret
  exact ⟨rfl, Hc.out⟩
def dotted (f : ByteArray) : ByteArray := ⟨#[46, 47]⟩ ++ f
theorem dotted_size (f : ByteArray) : (dotted f).size = f.size + 2 := by unfold dotted; rw [ByteArray.size_append]; show 2 + f.size = _; omega
theorem bt_left (a f : ByteArray) (i : Nat) (h : i < a.size) : bt (a ++ f) i = bt a i := by
  have h2 : i < (a ++ f).size := by rw [ByteArray.size_append]; omega
  rw [← bt_eq _ i h2, ← bt_eq _ i h, ByteArray.getElem_append_left h]
theorem dotted_0 (f : ByteArray) : bt (dotted f) 0 = 46 := bt_left _ f 0 (by decide)
theorem dotted_1 (f : ByteArray) : bt (dotted f) 1 = 47 := bt_left _ f 1 (by decide)
def szOf : Value → Nat
  | .string s => s.size + 1
  | _ => 0
theorem dotted_rest (f : ByteArray) (n : Nat) (hn : n = (dotted f).size) : (dotted f).extract 2 n = f := by
  subst hn
  unfold dotted
  apply ByteArray.ext
  rw [ByteArray.data_extract, ByteArray.data_append]
  have : (ByteArray.mk #[46, 47] ++ f).size = 2 + f.size := by rw [ByteArray.size_append]; rfl
  rw [this]
  have h2 : (#[46, 47] : Array UInt8).size = 2 := rfl
  simp [Array.extract_append]
def Bad (f : ByteArray) : Prop := f = ⟨#[46]⟩ ∨ f = ⟨#[46, 46]⟩ ∨ f = ⟨#[110, 111, 100, 101, 95, 109, 111, 100, 117, 108, 101, 115]⟩
theorem size_dotted (f : ByteArray) : (dotted f).size = f.size + 2 := dotted_size f
theorem lit_eq {f : ByteArray} {l : Array UInt8} (h : f = ⟨l⟩) : (f.toList == l.toList) = true := by
  subst h
  rw [ByteArray.toList_eq]
  simp
theorem lit_ne {f : ByteArray} {l : Array UInt8} (h : ¬ f = ⟨l⟩) : (f.toList == l.toList) = false := by
  refine beq_eq_false_iff_ne.2 fun e => h ?_
  rw [ByteArray.toList_eq] at e
  exact ByteArray.ext (Array.toList_inj.1 e)
theorem ByteArray.size_mk_nil : (ByteArray.mk #[]).size = 0 := rfl
set_option maxHeartbeats 8000000 in
theorem find38_dot (s f r : ByteArray) (w : World) (he : s = dotted f) (hs : NoSep f) (hb1 : Bad f → r = f) (hb2 : ¬ Bad f → r = ⟨#[]⟩) : Calls Tryz.prog 38 #[.string s] w (StrOut r w) := by
  have hsz : s.size = f.size + 2 := by rw [he]; exact dotted_size f
  have hs0 : ∀ i, i < 1 → ¬ Sep s i := fun i hi => by
    obtain rfl : i = 0 := by omega
    rw [he]; unfold Sep; rw [dotted_0]; omega
  have hs1 : Sep s 1 := by rw [he]; exact .inl (dotted_1 f)
  have hcut : ∀ n, n = s.size → s.extract 2 n = f := fun n hn => by subst he; exact dotted_rest f n hn
  have Hs := Lib.hid hs
  have Hcut := Lib.hid hcut
  have Hb1 := Lib.hid hb1
  have Hb2 := Lib.hid hb2
  have Hs0 := Lib.hid hs0
  have Hs1 := Lib.hid hs1
  clear hs he hb1 hb2 hcut hs0 hs1
  go_enter Tryz.func38, Tryz.ntmps38
  go_wp2_with fail
  refine (any48 s 1 1 w (by omega) Hs0.out (fun _ => Hs1.out) (fun h => rfl) (fun h => by omega)).mono ?_
  rintro e1 w1 ⟨rfl, hc⟩
  have Hc := Lib.hid hc
  clear hc
  have x2 : (2 : Int) ≤ (s.size : Int) := by omega
  go_wp2_with fail
  go_loopw [0] (fun p wr => (p = .string f ∨ p = .string ⟨#[]⟩ ∧ ¬ Bad f) ∧ Chg Nowhere w wr) (fun p _ => szOf p)
  case atStart => exact ⟨.inl (congrArg Value.string (Hcut.out _ (by first | rfl | omega))), Hc.out⟩
  case round =>
    obtain ⟨hp, hch⟩ := hrel
    have Hch := Lib.hid hch
    clear hch
    rcases hp with rfl | ⟨rfl, hnb⟩
    · by_cases hf0 : f = ⟨#[]⟩
      · subst hf0
        have hre : r = ⟨#[]⟩ := Hb2.out (by unfold Bad; decide)
        have Hre := Lib.hid hre
        clear hre
        go_wp2_with fail
        go_ret
        exact ⟨congrArg (fun z => Ending.returned (Value.string z)) Hre.out.symm, Hch.out⟩
      · have e0 : (f.toList == []) = false := by
          refine beq_eq_false_iff_ne.2 fun e => hf0 ?_
          rw [ByteArray.toList_eq] at e
          exact WideShapes.bytes_inj e
        have Hf0 := Lib.hid hf0
        clear hf0
        go_wp2_with fail
        refine (any48 f f.size (-1) wr (Nat.le_refl _) Hs.out (fun h => by omega) (fun h => by omega) (fun _ => rfl)).mono ?_
        rintro e1 w2 ⟨rfl, hc2⟩
        have Hc2 := Lib.hid (Hch.out.trans hc2 (fun _ _ h => h))
        clear hc2
        by_cases h1 : f = ⟨#[46]⟩
        · have a1 := lit_eq h1
          have hre : r = f := Hb1.out (.inl h1)
          have Hre := Lib.hid hre
          clear hre h1
          go_wp2_with fail
          go_ret
          exact ⟨congrArg (fun z => Ending.returned (Value.string z)) Hre.out.symm, Hc2.out⟩
        · have a1 := lit_ne h1
          by_cases h2 : f = ⟨#[46, 46]⟩
          · have a2 := lit_eq h2
            have hre : r = f := Hb1.out (.inr (.inl h2))
            have Hre := Lib.hid hre
            clear hre h1 h2
            go_wp2_with fail
            go_ret
            exact ⟨congrArg (fun z => Ending.returned (Value.string z)) Hre.out.symm, Hc2.out⟩
          · have a2 := lit_ne h2
            by_cases h3 : f = ⟨#[110, 111, 100, 101, 95, 109, 111, 100, 117, 108, 101, 115]⟩
            · have a3 := lit_eq h3
              have hre : r = f := Hb1.out (.inr (.inr h3))
              have Hre := Lib.hid hre
              clear hre h1 h2 h3
              go_wp2_with fail
              go_ret
              exact ⟨congrArg (fun z => Ending.returned (Value.string z)) Hre.out.symm, Hc2.out⟩
            · have a3 := lit_ne h3
              have Hnb : Hid (¬ Bad f) := Lib.hid (by unfold Bad; rintro (h | h | h) <;> contradiction)
              clear h1 h2 h3
              go_wp2_with fail
              go_roundw
              case rel => exact ⟨.inr ⟨rfl, Hnb.out⟩, Hc2.out⟩
              case measure =>
                have : f.size ≠ 0 := fun h => Hf0.out (by
                  apply ByteArray.ext
                  have : f.data.size = 0 := h
                  exact Array.eq_empty_of_size_eq_zero this)
                simp only [szOf, ByteArray.size_mk_nil]
                omega
    · have Hnb := Lib.hid hnb
      clear hnb
      have hre : r = ⟨#[]⟩ := Hb2.out Hnb.out
      have Hre := Lib.hid hre
      clear hre
      go_wp2_with fail
      go_ret
      exact ⟨congrArg (fun z => Ending.returned (Value.string z)) Hre.out.symm, Hch.out⟩
end Go.Proofs.YtcbmankbjgbjgaaGreatFmt
