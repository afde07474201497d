/-
  Proved: the walks of FnGuessMimeTypePlainTextForUnknownExt and FnGuessMimeTypeSniffsMagicForUnknownExt. No statement of the seat stands here.
-/
import Derived.Test.YtflpmhjfchpplaaDoorFin
namespace Go.Proofs.YtflpmhjfchpplaaDoor
open Go.RowKit Go.ChangeAt
set_option linter.unusedSimpArgs false
set_option linter.unusedVariables false
set_option maxRecDepth 100000
theorem mem_bt {s : ByteArray} {p : UInt8 → Prop} (h : ∀ i, i < s.size → ∀ x : UInt8, x.toNat = bt s i → p x) : ∀ x ∈ s.data.toList, p x := by
  intro x hx
  obtain ⟨i, hi, he⟩ := List.getElem_of_mem hx
  have hi2 : i < s.size := by rw [Array.length_toList] at hi; exact hi
  refine h i hi2 x ?_
  rw [← bt_eq s i hi2]
  have : s.data.toList[i] = s[i] := rfl
  rw [← he, this]
def DotOut (s : ByteArray) (w : World) (e : Ending) (w' : World) : Prop := ∃ r : Bool, e = .returned (.bool r) ∧ w = w' ∧ (r = true → NoDot s)
theorem nodot6 (s : ByteArray) (w : World) (hs : s.size ≤ 1048576) : Calls Tryd.prog 6 #[.string s] w (DotOut s w) := by
  go_enter Tryd.func6, Tryd.ntmps6
  go_wp2_with fail
  go_loop [3] (fun i => ∃ j : Nat, j ≤ s.size ∧ i = .int .i64 j ∧ ∀ x, x < j → bt s x ≠ 46) (fun i => s.size - (intOf' i).toNat)
  case atStart => exact ⟨0, by omega, rfl, fun x hx => by omega⟩
  case round =>
    obtain ⟨j, hj, rfl, hall⟩ := hrel
    have Hall := Lib.hid hall
    clear hall
    by_cases hlt : j < s.size
    · have x1 : (j : Int) < (s.size : Int) := by omega
      have x2 : (0 : Int) ≤ (j : Int) := by omega
      have b0 := bt_eq s j hlt
      by_cases hb : bt s j = 46
      · have e1 : ((bt s j : Int) == 46) = true := by simp; omega
        clear hb
        go_wp2_with fail
        go_ret
        exact ⟨false, rfl, rfl, fun h => by cases h⟩
      · have e1 : ((bt s j : Int) == 46) = false := by simp; omega
        have Hb := Lib.hid hb
        clear hb
        go_wp2_with fail
        go_round
        case rel => exact ⟨j + 1, by omega, by go_num, fun x hx => by
          by_cases e : x = j
          · subst e; exact Hb.out
          · exact Hall.out x (by omega)⟩
        case measure => simp [intOf']; omega
    · have x1 : ¬ (j : Int) < (s.size : Int) := by omega
      go_wp2_with fail
      go_ret
      exact ⟨true, rfl, rfl, fun _ => mem_bt fun i hi x hx e => Hall.out i (by omega) (by rw [← hx, e]; rfl)⟩
def LowTxt (s : ByteArray) : Prop := ∀ x ∈ s.data.toList, Sn.low x = true
def LowOk (s : ByteArray) (w : World) (e : Ending) (w' : World) : Prop := ∃ r : Bool, e = .returned (.bool r) ∧ w = w' ∧ (r = true → LowTxt s)
def lowN (x : Nat) : Prop := (97 ≤ x ∧ x ≤ 122) ∨ x = 32 ∨ x = 10
theorem low_of {x : UInt8} (h : lowN x.toNat) : Sn.low x = true := by
  unfold Sn.low
  have e1 : (97 : UInt8).toNat = 97 := rfl
  have e2 : (122 : UInt8).toNat = 122 := rfl
  simp only [Bool.or_eq_true, Bool.and_eq_true, decide_eq_true_eq, beq_iff_eq, UInt8.le_iff_toNat_le]
  rcases h with h | h | h
  · exact .inl (.inl ⟨by omega, by omega⟩)
  · exact .inl (.inr (UInt8.toNat_inj.1 h))
  · exact .inr (UInt8.toNat_inj.1 h)
set_option maxHeartbeats 2000000 in
theorem low7 (s : ByteArray) (w : World) (hs : s.size ≤ 1048576) : Calls Tryd.prog 7 #[.string s] w (LowOk s w) := by
  go_enter Tryd.func7, Tryd.ntmps7
  go_wp2_with fail
  go_loop [3, 4] (fun i _ => ∃ j : Nat, j ≤ s.size ∧ i = .int .i64 j ∧ ∀ x, x < j → lowN (bt s x)) (fun i _ => s.size - (intOf' i).toNat)
  case atStart => exact ⟨0, by omega, rfl, fun x hx => by omega⟩
  case round =>
    obtain ⟨j, hj, rfl, hall⟩ := hrel
    have Hall := Lib.hid hall
    clear hall
    by_cases hlt : j < s.size
    · have x1 : (j : Int) < (s.size : Int) := by omega
      have x2 : (0 : Int) ≤ (j : Int) := by omega
      have b0 := bt_eq s j hlt
      have hN : ∀ p : lowN (bt s j), ∀ x, x < j + 1 → lowN (bt s x) := fun p x hx => by
        by_cases e : x = j
        · subst e; exact p
        · exact Hall.out x (by omega)
      have HN := Lib.hid hN
      clear hN
      generalize hX : bt s j = X at *
      clear hX
      by_cases h97 : (97 : Int) ≤ (X : Int)
      · by_cases h122 : (X : Int) ≤ 122
        · go_wp2_with fail
          go_round
          case rel => exact ⟨j + 1, by omega, by go_num, HN.out (.inl ⟨by omega, by omega⟩)⟩
          case measure => simp [intOf']; omega
        · have e1 : ((X : Int) == 32) = false := by simp; omega
          have e2 : ((X : Int) == 10) = false := by simp; omega
          go_wp2_with fail
          go_ret
          exact ⟨false, rfl, rfl, fun h => by cases h⟩
      · by_cases h32 : X = 32
        · have e1 : ((X : Int) == 32) = true := by simp; omega
          have H32 := Lib.hid h32
          clear h32
          go_wp2_with fail
          go_round
          case rel => exact ⟨j + 1, by omega, by go_num, HN.out (.inr (.inl H32.out))⟩
          case measure => simp [intOf']; omega
        · have e1 : ((X : Int) == 32) = false := by simp; omega
          by_cases h10 : X = 10
          · have e2 : ((X : Int) == 10) = true := by simp; omega
            have H10 := Lib.hid h10
            clear h10 h32
            go_wp2_with fail
            go_round
            case rel => exact ⟨j + 1, by omega, by go_num, HN.out (.inr (.inr H10.out))⟩
            case measure => simp [intOf']; omega
          · have e2 : ((X : Int) == 10) = false := by simp; omega
            clear h10 h32
            go_wp2_with fail
            go_ret
            exact ⟨false, rfl, rfl, fun h => by cases h⟩
    · have x1 : ¬ (j : Int) < (s.size : Int) := by omega
      go_wp2_with fail
      go_ret
      exact ⟨true, rfl, rfl, fun _ => mem_bt fun i hi x hx => low_of (by rw [hx]; exact Hall.out i (by omega))⟩
def Zb (f s : ByteArray) (w : World) (e : Ending) (w' : World) : Prop := ∃ r : Bool, e = .returned (.bool r) ∧ w = w' ∧ (r = true → f.size ≤ 1048576 ∧ s.size ≤ 1048576)
theorem zb5 (f s : ByteArray) (w : World) : Calls Tryd.prog 5 #[.string f, .string s] w (Zb f s w) := by
  go_enter Tryd.func5, Tryd.ntmps5
  go_wp2
  all_goals (go_ret; first | exact ⟨false, rfl, rfl, fun h => by cases h⟩ | exact ⟨true, rfl, rfl, fun _ => ⟨by omega, by omega⟩⟩)
theorem zb9 (f s : ByteArray) (v : Value) (w : World) : Calls Tryd.prog 9 #[.string f, .string s, v] w (Zb f s w) := by
  go_enter Tryd.func9, Tryd.ntmps9
  go_wp2
  all_goals (go_ret; first | exact ⟨false, rfl, rfl, fun h => by cases h⟩ | exact ⟨true, rfl, rfl, fun _ => ⟨by omega, by omega⟩⟩)
def TrueOut (w : World) (e : Ending) (w' : World) : Prop := e = .returned (.bool true) ∧ Chg Nowhere w w'
theorem pre4 (s : ByteArray) : (4 ≤ s.size ∧ bt s 0 = 116 ∧ bt s 1 = 116 ∧ bt s 2 = 99 ∧ bt s 3 = 102 ∧ ([116, 116, 99, 102] : List UInt8).isPrefixOf s.data.toList = true) ∨ (¬ (4 ≤ s.size ∧ bt s 0 = 116 ∧ bt s 1 = 116 ∧ bt s 2 = 99 ∧ bt s 3 = 102) ∧ ([116, 116, 99, 102] : List UInt8).isPrefixOf s.data.toList = false) := by
  obtain ⟨⟨l⟩⟩ := s
  have e : ∀ (x : UInt8) (n : UInt8), (n == x) = true ↔ x.toNat = n.toNat := fun x n => by
    rw [beq_iff_eq]
    exact ⟨fun h => by rw [h], fun h => (UInt8.toNat_inj.1 h).symm⟩
  match l with
  | [] => exact .inr ⟨by simp [ByteArray.size], rfl⟩
  | [_] => exact .inr ⟨by simp [ByteArray.size], by simp [List.isPrefixOf]⟩
  | [_, _] => exact .inr ⟨by simp [ByteArray.size], by simp [List.isPrefixOf]⟩
  | [_, _, _] => exact .inr ⟨by simp [ByteArray.size], by simp [List.isPrefixOf]⟩
  | a :: b :: c :: d :: t =>
    have hz : (ByteArray.mk ⟨a :: b :: c :: d :: t⟩).size = t.length + 4 := rfl
    have b0 : bt ⟨⟨a :: b :: c :: d :: t⟩⟩ 0 = a.toNat := by unfold bt; rw [dif_pos (by rw [hz]; omega)]; rfl
    have b1 : bt ⟨⟨a :: b :: c :: d :: t⟩⟩ 1 = b.toNat := by unfold bt; rw [dif_pos (by rw [hz]; omega)]; rfl
    have b2 : bt ⟨⟨a :: b :: c :: d :: t⟩⟩ 2 = c.toNat := by unfold bt; rw [dif_pos (by rw [hz]; omega)]; rfl
    have b3 : bt ⟨⟨a :: b :: c :: d :: t⟩⟩ 3 = d.toNat := by unfold bt; rw [dif_pos (by rw [hz]; omega)]; rfl
    rw [b0, b1, b2, b3, hz]
    have hp : ([116, 116, 99, 102] : List UInt8).isPrefixOf (a :: b :: c :: d :: t) = ((116 : UInt8) == a && ((116 : UInt8) == b && ((99 : UInt8) == c && (102 : UInt8) == d))) := by
      simp [List.isPrefixOf]
    show (_ ∧ _ ∧ _ ∧ _ ∧ _ ∧ ([116, 116, 99, 102] : List UInt8).isPrefixOf (a :: b :: c :: d :: t) = true) ∨ (_ ∧ ([116, 116, 99, 102] : List UInt8).isPrefixOf (a :: b :: c :: d :: t) = false)
    rw [hp]
    by_cases h : a.toNat = 116 ∧ b.toNat = 116 ∧ c.toNat = 99 ∧ d.toNat = 102
    · left
      refine ⟨by omega, h.1, h.2.1, h.2.2.1, h.2.2.2, ?_⟩
      simp only [Bool.and_eq_true]
      exact ⟨(e a 116).2 h.1, (e b 116).2 h.2.1, (e c 99).2 h.2.2.1, (e d 102).2 h.2.2.2⟩
    · right
      refine ⟨fun h2 => h ⟨h2.2.1, h2.2.2.1, h2.2.2.2.1, h2.2.2.2.2⟩, ?_⟩
      rw [Bool.eq_false_iff]
      intro h2
      simp only [Bool.and_eq_true] at h2
      exact h ⟨(e a 116).1 h2.1, (e b 116).1 h2.2.1, (e c 99).1 h2.2.2.1, (e d 102).1 h2.2.2.2⟩
set_option maxHeartbeats 16000000 in
theorem law3 (f s : ByteArray) (bm : Nat) (w : World) (hM : MapP w bm) : Calls Tryd.prog 3 #[.string f, .string s] w (TrueOut w) := by
  have HM := Lib.hid hM
  clear hM
  go_enter Tryd.func3, Tryd.ntmps3
  go_wp2_with fail
  refine (zb5 f s w).mono ?_
  rintro e1 w1 ⟨r, rfl, rfl, hr⟩
  cases r
  · clear hr
    go_wp2_with fail
    go_ret
    exact ⟨rfl, Chg.refl _ _⟩
  obtain ⟨hf, hs⟩ := hr rfl
  clear hr
  by_cases ht : (1048576 : Int) < (f.size : Int) + (s.size : Int)
  · go_wp2_with fail
    go_ret
    exact ⟨rfl, Chg.refl _ _⟩
  go_wp2_with fail
  refine (nodot6 f w hf).mono ?_
  rintro e2 w2 ⟨r, rfl, rfl, hr⟩
  cases r
  · clear hr
    go_wp2_with fail
    go_ret
    exact ⟨rfl, Chg.refl _ _⟩
  have Hd := Lib.hid (hr rfl)
  clear hr
  go_wp2_with fail
  refine (low7 s w hs).mono ?_
  rintro e3 w3 ⟨r, rfl, rfl, hr⟩
  cases r
  · clear hr
    go_wp2_with fail
    go_ret
    exact ⟨rfl, Chg.refl _ _⟩
  have Hl := Lib.hid (hr rfl)
  clear hr
  rcases pre4 s with ⟨h4, c0, c1, c2, c3, hp⟩ | ⟨hn, hp⟩
  · obtain ⟨k, hk⟩ := sniff_font s.data.toList Hl.out hp
    have h8 := zz8 f s _ w (guess10 f s _ bm k _ _ w HM.out hf Hd.out (by omega) hk rep_font)
    have H8 := Lib.hid h8
    clear h8 hk hp
    have b0 := bt_eq s 0 (by omega)
    have b1 := bt_eq s 1 (by omega)
    have b2 := bt_eq s 2 (by omega)
    have b3 := bt_eq s 3 (by omega)
    rw [c0] at b0
    rw [c1] at b1
    rw [c2] at b2
    rw [c3] at b3
    clear c0 c1 c2 c3
    have y0 : (0 : Int) < (s.size : Int) := by omega
    have y1 : (1 : Int) < (s.size : Int) := by omega
    have y2 : (2 : Int) < (s.size : Int) := by omega
    have y3 : (3 : Int) < (s.size : Int) := by omega
    have y4 : (4 : Int) ≤ (s.size : Int) := by omega
    go_wp2_with fail
    refine H8.out.mono ?_
    rintro e4 w4 ⟨rfl, hc⟩
    have HC := Lib.hid hc
    clear hc
    go_wp2_with fail
    go_ret
    exact ⟨rfl, HC.out⟩
  · obtain ⟨k, hk⟩ := sniff_text s.data.toList Hl.out hp
    have h8 := zz8 f s _ w (guess10 f s _ bm k _ _ w HM.out hf Hd.out (by omega) hk rep_text)
    have H8 := Lib.hid h8
    clear h8 hk hp
    by_cases h4 : 4 ≤ s.size
    · have b0 := bt_eq s 0 (by omega)
      have b1 := bt_eq s 1 (by omega)
      have b2 := bt_eq s 2 (by omega)
      have b3 := bt_eq s 3 (by omega)
      have y0 : (0 : Int) < (s.size : Int) := by omega
      have y1 : (1 : Int) < (s.size : Int) := by omega
      have y2 : (2 : Int) < (s.size : Int) := by omega
      have y3 : (3 : Int) < (s.size : Int) := by omega
      have y4 : (4 : Int) ≤ (s.size : Int) := by omega
      generalize bt s 0 = X0 at *
      generalize bt s 1 = X1 at *
      generalize bt s 2 = X2 at *
      generalize bt s 3 = X3 at *
      by_cases h0 : X0 = 116
      · have e0 : ((X0 : Int) == 116) = true := by simp; omega
        by_cases h1 : X1 = 116
        · have e1 : ((X1 : Int) == 116) = true := by simp; omega
          by_cases h2 : X2 = 99
          · have e2 : ((X2 : Int) == 99) = true := by simp; omega
            have e3 : ((X3 : Int) == 102) = false := by
              rw [beq_eq_false_iff_ne]
              intro e
              exact hn ⟨h4, h0, h1, h2, by omega⟩
            clear hn h0 h1 h2
            go_wp2_with fail
            refine H8.out.mono ?_
            rintro e4 w4 ⟨rfl, hc⟩
            have HC := Lib.hid hc
            clear hc
            go_wp2_with fail
            go_ret
            exact ⟨rfl, HC.out⟩
          · have e2 : ((X2 : Int) == 99) = false := by simp; omega
            clear hn h0 h1 h2
            go_wp2_with fail
            refine H8.out.mono ?_
            rintro e4 w4 ⟨rfl, hc⟩
            have HC := Lib.hid hc
            clear hc
            go_wp2_with fail
            go_ret
            exact ⟨rfl, HC.out⟩
        · have e1 : ((X1 : Int) == 116) = false := by simp; omega
          clear hn h0 h1
          go_wp2_with fail
          refine H8.out.mono ?_
          rintro e4 w4 ⟨rfl, hc⟩
          have HC := Lib.hid hc
          clear hc
          go_wp2_with fail
          go_ret
          exact ⟨rfl, HC.out⟩
      · have e0 : ((X0 : Int) == 116) = false := by simp; omega
        clear hn h0
        go_wp2_with fail
        refine H8.out.mono ?_
        rintro e4 w4 ⟨rfl, hc⟩
        have HC := Lib.hid hc
        clear hc
        go_wp2_with fail
        go_ret
        exact ⟨rfl, HC.out⟩
    · have y4 : ¬ (4 : Int) ≤ (s.size : Int) := by omega
      clear hn h4
      go_wp2_with fail
      refine H8.out.mono ?_
      rintro e4 w4 ⟨rfl, hc⟩
      have HC := Lib.hid hc
      clear hc
      go_wp2_with fail
      go_ret
      exact ⟨rfl, HC.out⟩
end Go.Proofs.YtflpmhjfchpplaaDoor
