/-
  Proved: contracts of the law's small helpers. No statement of the seat stands here.
-/
import Derived.Test.YtcbmankbjgbjgaaGreatFmtIex
import Derived.Lib.SliceRun
namespace Go.Proofs.YtcbmankbjgbjgaaGreatFmt
open Go.RowKit Go.ChangeAt
set_option linter.unusedSimpArgs false
set_option linter.unusedVariables false
set_option maxRecDepth 100000
def Zb6 (f s : ByteArray) (w : World) (e : Ending) (w' : World) : Prop := ∃ r : Bool, e = .returned (.bool r) ∧ w = w' ∧ (r = true → f.size ≤ 1048576 ∧ s.size ≤ 1048576)
set_option maxHeartbeats 4000000 in
theorem zb6 (f s : ByteArray) (v : Value) (w : World) : Calls Tryz.prog 6 #[.string f, .string s, v] w (Zb6 f s w) := by
  go_enter Tryz.func6, Tryz.ntmps6
  go_wp2
  all_goals (go_ret; first | exact ⟨false, rfl, rfl, fun h => by cases h⟩ | exact ⟨true, rfl, rfl, fun _ => ⟨by omega, by omega⟩⟩)
theorem sep21 (x : Int) (w : World) : Calls Tryz.prog 21 #[.int .u8 x] w (fun e w' => e = .returned (.bool (x == 47 || x == 92)) ∧ w = w') := by
  by_cases h1 : x = 47
  · subst h1
    go_enter Tryz.func21, Tryz.ntmps21
    go_wp2_with fail
    go_ret
    exact ⟨rfl, rfl⟩
  · have e1 : (x == 47) = false := beq_eq_false_iff_ne.2 h1
    rw [e1, Bool.false_or]
    clear h1
    go_enter Tryz.func21, Tryz.ntmps21
    go_wp2_with fail
    go_ret
    exact ⟨rfl, rfl⟩
def SepOut (s : ByteArray) (w : World) (e : Ending) (w' : World) : Prop := ∃ r : Bool, e = .returned (.bool r) ∧ w = w' ∧ (r = false → NoSep s)
theorem hasSep7 (s : ByteArray) (w : World) (hs : s.size ≤ 1048576) : Calls Tryz.prog 7 #[.string s] w (SepOut s w) := by
  go_enter Tryz.func7, Tryz.ntmps7
  go_wp2_with fail
  go_loop [3] (fun i => ∃ k : Nat, k ≤ s.size ∧ i = .int .i64 k ∧ ∀ j, j < k → ¬ Sep s j) (fun i => s.size - (intOf i).toNat)
  case atStart => exact ⟨0, by omega, rfl, fun j hj => by omega⟩
  case round =>
    obtain ⟨k, hk, rfl, hno⟩ := hrel
    have Hno := Lib.hid hno
    clear hno
    by_cases hlt : k < s.size
    · have hb := bt_eq s k hlt
      have hx : (k : Int) < (s.size : Int) := by omega
      have hx0 : (0 : Int) ≤ (k : Int) := by omega
      go_wp2_with fail
      refine (sep21 _ w).mono ?_
      rintro e1 w1 ⟨rfl, rfl⟩
      cases hc : ((bt s k : Int) == 47 || (bt s k : Int) == 92)
      · have hn : ¬ Sep s k := by
          unfold Sep
          simp only [Bool.or_eq_false_iff, beq_eq_false_iff_ne] at hc
          omega
        have Hn := Lib.hid hn
        clear hn
        go_wp2_with fail
        go_round
        case rel => exact ⟨k + 1, by omega, by go_num, fun j hj => by
          by_cases e : j = k
          · subst e; exact Hn.out
          · exact Hno.out j (by omega)⟩
        case measure => simp [intOf]; omega
      · clear hc
        go_wp2_with fail
        go_ret
        exact ⟨true, rfl, rfl, fun h => by cases h⟩
    · obtain rfl : k = s.size := by omega
      have hx : ¬ ((s.size : Int)) < (s.size : Int) := by omega
      go_wp2_with fail
      go_ret
      exact ⟨false, rfl, rfl, fun _ => Hno.out⟩
def BadOut (s : ByteArray) (w : World) (e : Ending) (w' : World) : Prop := ∃ r : Bool, e = .returned (.bool r) ∧ w = w' ∧ (r = true → Bad s) ∧ (r = false → ¬ Bad s)
theorem bad11 (f : ByteArray) (w : World) : Calls Tryz.prog 11 #[.string f] w (BadOut f w) := by
  by_cases h1 : f = ⟨#[46]⟩
  · have a1 := lit_eq h1
    have H : Hid (Bad f) := Lib.hid (.inl h1)
    clear h1
    go_enter Tryz.func11, Tryz.ntmps11
    go_wp2_with fail
    go_ret
    exact ⟨true, rfl, rfl, fun _ => H.out, fun h => by cases h⟩
  · have a1 := lit_ne h1
    by_cases h2 : f = ⟨#[46, 46]⟩
    · have a2 := lit_eq h2
      have H : Hid (Bad f) := Lib.hid (.inr (.inl h2))
      clear h1 h2
      go_enter Tryz.func11, Tryz.ntmps11
      go_wp2_with fail
      go_ret
      exact ⟨true, rfl, rfl, fun _ => H.out, fun h => by cases h⟩
    · have a2 := lit_ne h2
      by_cases h3 : f = ⟨#[110, 111, 100, 101, 95, 109, 111, 100, 117, 108, 101, 115]⟩
      · have a3 := lit_eq h3
        have H : Hid (Bad f) := Lib.hid (.inr (.inr h3))
        clear h1 h2 h3
        go_enter Tryz.func11, Tryz.ntmps11
        go_wp2_with fail
        go_ret
        exact ⟨true, rfl, rfl, fun _ => H.out, fun h => by cases h⟩
      · have a3 := lit_ne h3
        have H : Hid (¬ Bad f) := Lib.hid (by unfold Bad; rintro (h | h | h) <;> contradiction)
        clear h1 h2 h3
        go_enter Tryz.func11, Tryz.ntmps11
        go_wp2_with fail
        go_ret
        exact ⟨false, rfl, rfl, (fun h => by cases h), fun _ => H.out⟩
theorem toNat_eq {c : UInt8} {n : Nat} (h : c.toNat = n) (hn : n < 256) : c = UInt8.ofNat n := by
  apply UInt8.toNat_inj.1
  rw [h, UInt8.toNat_ofNat']
  omega
theorem get_at_list (s : ByteArray) (i : Nat) (h : i < s.size) : s.data.toList[i]? = some (s[i]'h) := by
  have h2 : i < s.data.toList.length := by rw [Array.length_toList]; exact h
  rw [List.getElem?_eq_getElem h2]
  rfl
theorem exp_star (s : ByteArray) (i : Nat) (h : i < s.size) (hb : bt s i = 42) : Exp s := by
  right
  rw [← bt_eq s i h] at hb
  have hc : s.data.toList[i]? = some 42 := by
    rw [get_at_list s i h, toNat_eq hb (by decide)]
    rfl
  have hge := Lib.indexByte_ge s.data.toList 42
  by_cases h1 : Lib.indexByte s.data.toList 42 = -1
  · exact absurd hc (Lib.indexByte_none h1 i)
  · omega
theorem suffix_slash (s : ByteArray) (L : Nat) (hs : s.size = L + 1) : Lib.hasSuffix s.data.toList [47] = (s[L]'(by omega) == 47) := by
  have hl : L < s.size := by omega
  rw [← Lib.hasSuffix_of_drop]
  have h1 : s.data.toList.length = L + 1 := by rw [Array.length_toList]; exact hs
  have h2 : s.data.toList.drop L = [s[L]'hl] := by
    rw [List.drop_eq_getElem_cons (by omega), List.drop_eq_nil_of_le (by omega)]
    rfl
  simp [h1, h2]
theorem exp_slash (s : ByteArray) (L : Nat) (hs : s.size = L + 1) (hb : bt s L = 47) : Exp s := by
  left
  have hl : L < s.size := by omega
  rw [← bt_eq s L hl] at hb
  rw [suffix_slash s L hs, toNat_eq hb (by decide)]
  rfl
theorem not_exp (s : ByteArray) (h1 : ∀ i, i < s.size → bt s i ≠ 42) (h2 : ∀ L, s.size = L + 1 → bt s L ≠ 47) : ¬ Exp s := by
  rintro (h | h)
  · cases hz : s.size with
    | zero =>
      have := Lib.hasSuffix_of_drop s.data.toList [47]
      rw [h] at this
      have h0 : s.data.toList.length = 0 := by rw [Array.length_toList]; exact hz
      simp [h0] at this
    | succ L =>
      rw [suffix_slash s L hz] at h
      refine h2 L hz ?_
      rw [← bt_eq s L (by omega), beq_iff_eq.1 h]
      rfl
  · obtain ⟨o, ho⟩ : ∃ o : Nat, Lib.indexByte s.data.toList 42 = o := ⟨(Lib.indexByte s.data.toList 42).toNat, by omega⟩
    have h3 := (Lib.indexByte_some ho).1
    have h4 : o < s.size := by
      have := (List.getElem?_eq_some_iff.1 h3).1
      rw [Array.length_toList] at this
      exact this
    rw [get_at_list s o h4] at h3
    refine h1 o h4 ?_
    rw [← bt_eq s o h4, Option.some.inj h3]
    rfl
def StarOut (s : ByteArray) (w : World) (e : Ending) (w' : World) : Prop := ∃ r : Bool, e = .returned (.bool r) ∧ w = w' ∧ (r = true → ∃ i, i < s.size ∧ bt s i = 42) ∧ (r = false → ∀ i, i < s.size → bt s i ≠ 42)
theorem star19 (s : ByteArray) (w : World) (hs : s.size ≤ 1048576) : Calls Tryz.prog 19 #[.string s, .int .u8 42] w (StarOut s w) := by
  go_enter Tryz.func19, Tryz.ntmps19
  go_wp2_with fail
  go_loop [5] (fun i => ∃ k : Nat, k ≤ s.size ∧ i = .int .i64 k ∧ ∀ j, j < k → bt s j ≠ 42) (fun i => s.size - (intOf i).toNat)
  case atStart => exact ⟨0, by omega, rfl, fun j hj => by omega⟩
  case round =>
    obtain ⟨k, hk, rfl, hno⟩ := hrel
    have Hno := Lib.hid hno
    clear hno
    by_cases hlt : k < s.size
    · have hb := bt_eq s k hlt
      have hx : (k : Int) < (s.size : Int) := by omega
      have hx0 : (0 : Int) ≤ (k : Int) := by omega
      by_cases h42 : bt s k = 42
      · have e1 : ((bt s k : Int) == 42) = true := beq_iff_eq.2 (by omega)
        have H42 := Lib.hid h42
        clear h42
        go_wp2_with fail
        go_ret
        exact ⟨true, rfl, rfl, (fun _ => ⟨k, hlt, H42.out⟩), fun h => by cases h⟩
      · have e1 : ((bt s k : Int) == 42) = false := beq_eq_false_iff_ne.2 (by omega)
        have H42 := Lib.hid h42
        clear h42
        go_wp2_with fail
        go_round
        case rel => exact ⟨k + 1, by omega, by go_num, fun j hj => by
          by_cases e : j = k
          · subst e; exact H42.out
          · exact Hno.out j (by omega)⟩
        case measure => simp [intOf]; omega
    · obtain rfl : k = s.size := by omega
      have hx : ¬ ((s.size : Int)) < (s.size : Int) := by omega
      go_wp2_with fail
      go_ret
      exact ⟨false, rfl, rfl, (fun h => by cases h), fun _ => Hno.out⟩
theorem last_ne (s : ByteArray) (L : Nat) (hL : s.size = L + 1) (h : bt s L ≠ 47) : ∀ L', s.size = L' + 1 → bt s L' ≠ 47 := fun L' h1 => by
  have h2 : L' = L := by omega
  rw [h2]
  exact h
def ExpOut (s : ByteArray) (w : World) (e : Ending) (w' : World) : Prop := ∃ r : Bool, e = .returned (.bool r) ∧ w = w' ∧ (r = true → Exp s) ∧ (r = false → ¬ Exp s)
set_option maxHeartbeats 4000000 in
theorem exp15 (s : ByteArray) (w : World) (hs : s.size ≤ 1048576) : Calls Tryz.prog 15 #[.string s] w (ExpOut s w) := by
  by_cases h0 : s.size = 0
  · have x0 : ¬ (0 : Int) < (s.size : Int) := by omega
    have H0 := Lib.hid h0
    clear h0
    go_enter Tryz.func15, Tryz.ntmps15
    go_wp2_with fail
    refine (star19 s w hs).mono ?_
    rintro e1 w1 ⟨r, rfl, rfl, hr1, hr2⟩
    have Hr1 := Lib.hid hr1
    have Hr2 := Lib.hid hr2
    clear hr1 hr2
    cases r
    · go_wp2_with fail
      go_ret
      exact ⟨false, rfl, rfl, (fun h => by cases h), fun _ => not_exp s (Hr2.out (by trivial)) (fun L hL => by have := H0.out; omega)⟩
    · go_wp2_with fail
      go_ret
      exact ⟨true, rfl, rfl, (fun _ => by obtain ⟨i, hi, hb⟩ := Hr1.out (by trivial); exact exp_star s i hi hb), fun h => by cases h⟩
  · obtain ⟨L, hL⟩ : ∃ L, s.size = L + 1 := ⟨s.size - 1, by omega⟩
    have x0 : (0 : Int) < (s.size : Int) := by omega
    have hl : L < s.size := by omega
    have b0 := bt_eq s L hl
    have hi1 : ((s.size : Int) - 1).toNat = L := by omega
    have hi2 : (0 : Int) ≤ (s.size : Int) - 1 := by omega
    have hi3 : (s.size : Int) - 1 < (s.size : Int) := by omega
    have HL := Lib.hid hL
    clear hL
    by_cases h47 : bt s L = 47
    · have e0 : ((bt s L : Int) == 47) = true := beq_iff_eq.2 (by omega)
      have H47 := Lib.hid h47
      clear h47
      go_enter Tryz.func15, Tryz.ntmps15
      go_wp2_with fail
      go_ret
      exact ⟨true, rfl, rfl, (fun _ => exp_slash s L HL.out H47.out), fun h => by cases h⟩
    · have e0 : ((bt s L : Int) == 47) = false := beq_eq_false_iff_ne.2 (by omega)
      have H47 := Lib.hid h47
      clear h47
      go_enter Tryz.func15, Tryz.ntmps15
      go_wp2_with fail
      refine (star19 s w hs).mono ?_
      rintro e1 w1 ⟨r, rfl, rfl, hr1, hr2⟩
      have Hr1 := Lib.hid hr1
      have Hr2 := Lib.hid hr2
      clear hr1 hr2
      cases r
      · go_wp2_with fail
        go_ret
        exact ⟨false, rfl, rfl, (fun h => by cases h), fun _ => not_exp s (Hr2.out (by trivial)) (last_ne s L HL.out H47.out)⟩
      · go_wp2_with fail
        go_ret
        exact ⟨true, rfl, rfl, (fun _ => by obtain ⟨i, hi, hb⟩ := Hr1.out (by trivial); exact exp_star s i hi hb), fun h => by cases h⟩
theorem info4 : (Tryz.prog.info? 4).map (fun i => (i.zero, i.size, i.bytes)) = some (some (.bool false), 1, 1) := by kernel_rfl
theorem info_parts {P : Program} {e : TypeId} {z : Value} {s b : Nat} (h : (P.info? e).map (fun i => (i.zero, i.size, i.bytes)) = some (some z, s, b)) : ∃ i, P.info? e = some i ∧ i.zero = some z ∧ i.size = s ∧ i.bytes = b := by
  obtain ⟨i, hi, hz⟩ := Option.map_eq_some_iff.1 h
  simp only [Prod.mk.injEq] at hz
  exact ⟨i, hi, hz.1, hz.2.1, hz.2.2⟩
def strAt (f : Nat → ByteArray) (i : Nat) : Value := .string (f i)
def noAt (_ : Nat) : Value := .bool false
def FlagOut (n : Nat) (w : World) (e : Ending) (w' : World) : Prop := ∃ a c, e = .returned (.slice (some a) n c) ∧ Reads w' (some a) n noAt ∧ Chg Nowhere w w'
set_option maxHeartbeats 4000000 in
theorem flags9 (a : Option Addr) (n c : Nat) (f : Nat → ByteArray) (w : World) (hF : Reads w a n (strAt f)) (hn : n ≤ 1048576) (hs : ∀ i, i < n → (f i).size ≤ 1048576) (hne : ∀ i, i < n → ¬ Exp (f i)) : Calls Tryz.prog 9 #[.slice a n c] w (FlagOut n w) := by
  have HF := Lib.hid hF
  have Hs := Lib.hid hs
  have Hne := Lib.hid hne
  clear hF hs hne
  obtain ⟨i0, hi, hz0, hz1, hz2⟩ := info_parts info4
  have hmk := run_make_one (P := Tryz.prog) 27 4 i0 _ Tryz.underlying27 hi hz0 hz1 rfl 1 hz2 n (by omega) (by omega) w
  clear hi hz0 hz1 hz2
  go_enter Tryz.func9, Tryz.ntmps9
  go_wp2_with fail
  clear hmk
  go_loopw [4] (fun i wr => ∃ k : Nat, k ≤ n ∧ i = .int .i64 k ∧ Made w wr 4 n k noAt) (fun i _ => n - (intOf i).toNat)
  case atStart => exact ⟨0, by omega, rfl, Made.start w 4 _ n noAt⟩
  case round =>
    obtain ⟨k, hk, rfl, hm⟩ := hrel
    by_cases hlt : k < n
    · rcases HF.out with h0 | ⟨g, o, rfl, hR1⟩
      · omega
      have hch : Chg Nowhere w wr := hm.1
      have hc := hch.cell (hR1 k hlt) (fun h => h)
      obtain ⟨v, hv⟩ := hm.cell k hlt
      have hf := hm.frozen k
      have hl := hm.lt
      have Hm := Lib.hid hm
      clear hR1 hm hch
      unfold strAt at hc
      have hx1 : (k : Int) < (n : Int) := by omega
      have hx0 : (0 : Int) ≤ (k : Int) := by omega
      go_wp2_with fail
      refine (exp15 (f k) wr (Hs.out k hlt)).mono ?_
      rintro e1 w1 ⟨r, rfl, rfl, hr1, hr2⟩
      have hrf : r = false := by
        cases r
        · rfl
        · exact absurd (hr1 rfl) (Hne.out k hlt)
      subst hrf
      clear hr1 hr2
      go_wp2_with fail
      go_roundw
      case rel => exact ⟨k + 1, by omega, by go_num, Hm.out.step hlt⟩
      case measure => simp [intOf]; omega
    · obtain rfl : k = n := by omega
      have Hm := Lib.hid hm
      clear hm
      go_wp2_with fail
      go_ret
      exact ⟨_, _, rfl, Hm.out.reads, Hm.out.1⟩
end Go.Proofs.YtcbmankbjgbjgaaGreatFmt
