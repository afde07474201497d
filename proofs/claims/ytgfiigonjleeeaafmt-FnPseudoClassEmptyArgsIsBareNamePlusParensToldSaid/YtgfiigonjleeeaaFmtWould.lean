/-
  Proved: contract of css_lexer.WouldStartIdentifierWithoutEscapes at every string of bytes. No statement of the seat stands here.
-/
import Derived.Test.YtgfiigonjleeeaaFmtLay
import Derived.Test.YtgfiigonjleeeaaFmtShelf
namespace Go.Proofs.YtgfiigonjleeeaaFmt
open Go.RowKit Go.ChangeAt
set_option linter.unusedSimpArgs false
set_option linter.unusedVariables false
set_option maxRecDepth 100000
theorem chg_of_below {w w' : World} (h : Below w.heap.size w w') : Chg Nowhere w w' := (Chg.of_below h (S := fun k => w.heap.size ≤ k) (fun _ h => h)).mono (fun k hk hs => by omega)
theorem below_of_chg {w w' : World} (h : Chg Nowhere w w') : Below w.heap.size w w' := h.below (Nat.le_refl _) (fun _ _ h => h.elim)
def BoolC (r : Bool) (w : World) (e : Ending) (w' : World) : Prop := e = .returned (.bool r) ∧ Chg Nowhere w w'
def DecOut (R K : Nat) (w : World) (e : Ending) (w' : World) : Prop := e = .returned (.tuple #[.int .i32 R, .int .i64 K]) ∧ Chg Nowhere w w'
theorem decode_any (s : ByteArray) (w : World) (hT : Lib.Utf8Tabs 1 2 w) : Calls Tryf.prog 42 #[.string s] w (DecOut (Lib.decodeGo s).1 (Lib.decodeGo s).2 w) :=
  (Tryf.utf8_DecodeRuneInString s w hT).mono fun _ _ ⟨h1, h2⟩ => ⟨h1, chg_of_below h2⟩
theorem dec_45 (s : ByteArray) (h : (Lib.decodeGo s).1 = 45) : (Lib.decodeGo s).2 = 1 ∧ 1 ≤ s.size := by
  unfold Lib.decodeGo at h ⊢
  by_cases h0 : s.size = 0
  · rw [if_pos h0] at h
    cases h
  · rw [if_neg h0] at h ⊢
    have hp : 0 < s.size := by omega
    by_cases ha : (s[0]'hp).toNat < 128
    · rw [decode_ascii s 0 hp ha]
      exact ⟨rfl, hp⟩
    · have := (decode_high s 0 hp (by omega)).1
      omega
set_option maxHeartbeats 4000000 in
theorem would_any (s : ByteArray) (w : World) (hT : Lib.Utf8Tabs 1 2 w) : Calls Tryf.prog 24 #[.string s] w (BoolC (wouldB s) w) := by
  have h45 := dec_45 s
  have hd1 := decode_any s w hT
  have hw : ∀ R K, (Lib.decodeGo s).1 = R → (Lib.decodeGo s).2 = K → wouldB s = if R = 65533 ∧ K ≤ 1 then false else if isStart R = true then true else if R = 45 then
      (if (Lib.decodeGo (s.extract K s.size)).1 = 65533 ∧ (Lib.decodeGo (s.extract K s.size)).2 ≤ 1 then false else isStart (Lib.decodeGo (s.extract K s.size)).1 || decide ((Lib.decodeGo (s.extract K s.size)).1 = 45)) else false := by
    rintro _ _ rfl rfl
    rfl
  generalize hR : (Lib.decodeGo s).1 = R at hd1 h45 hw
  generalize hK : (Lib.decodeGo s).2 = K at hd1 h45 hw
  replace hw := hw R K rfl rfl
  have HT := Lib.hid hT
  clear hT
  by_cases hA : R = 65533 ∧ K ≤ 1
  · rw [if_pos hA] at hw
    rw [hw]
    have e1 : ((R : Int) == 65533) = true := by simp; omega
    have e2 : ((K : Int) ≤ 1) = True := eq_true (by omega)
    clear hw h45
    go_enter Tryf.func24, Tryf.ntmps24
    go_wp2_with fail
    refine hd1.mono ?_
    rintro ex w1 ⟨rfl, hc⟩
    have Hc := Lib.hid hc
    clear hc
    go_wp2_with fail
    go_ret
    exact ⟨rfl, Hc.out⟩
  · rw [if_neg hA] at hw
    have e12 : (((R : Int) == 65533) = true ∧ ((K : Int) ≤ 1) = False) ∨ ((R : Int) == 65533) = false := by
      by_cases h1 : R = 65533
      · exact .inl ⟨by simp; omega, eq_false (by omega)⟩
      · exact .inr (by simp; omega)
    have hs1 := fun w => start_any R w
    by_cases hB : isStart R = true
    · rw [if_pos hB] at hw
      rw [hw]
      rw [hB] at hs1
      clear hw h45 hA
      rcases e12 with ⟨e1, e2⟩ | e1
      all_goals
        go_enter Tryf.func24, Tryf.ntmps24
        go_wp2_with fail
        refine hd1.mono ?_
        rintro ex w1 ⟨rfl, hc⟩
        have Hc := Lib.hid hc
        clear hc
        go_wp2_with fail
        refine (hs1 w1).mono ?_
        rintro ex w2 ⟨rfl, rfl⟩
        go_wp2_with fail
        go_ret
        exact ⟨rfl, Hc.out⟩
    · rw [if_neg hB] at hw
      have hB' : isStart R = false := by simpa using hB
      rw [hB'] at hs1
      clear hB hB'
      by_cases hC : R = 45
      · rw [if_pos hC] at hw
        obtain ⟨hK1, hsz⟩ := h45 hC
        have e1 : ((R : Int) == 65533) = false := by simp; omega
        have e3 : ((R : Int) == 45) = true := by simp; omega
        have hd2 : ∀ w', Lib.Utf8Tabs 1 2 w' → Calls Tryf.prog 42 #[.string (s.extract K s.size)] w' _ := fun w' h => decode_any (s.extract K s.size) w' h
        have Hw := Lib.hid hw
        have hk1 : (K : Int) ≤ (s.size : Int) := by omega
        have hk0 : (0 : Int) ≤ (K : Int) := by omega
        clear hw e12 hA h45 hR hK hC hK1
        go_enter Tryf.func24, Tryf.ntmps24
        go_wp2_with fail
        refine hd1.mono ?_
        rintro ex w1 ⟨rfl, hc⟩
        have Hc := Lib.hid hc
        clear hc
        go_wp2_with fail
        refine (hs1 w1).mono ?_
        rintro ex w2 ⟨rfl, rfl⟩
        go_wp2_with fail
        refine (hd2 w1 (Utf8Tabs_below HT.out (below_of_chg Hc.out))).mono ?_
        rintro ex w2 ⟨rfl, hc⟩
        have Hc2 := Lib.hid (Hc.out.trans hc (fun _ _ h => h))
        clear hc hd2
        have hw := Hw.out
        clear Hw
        generalize hR2 : (Lib.decodeGo (s.extract K s.size)).1 = R2 at hw ⊢
        generalize hK2 : (Lib.decodeGo (s.extract K s.size)).2 = K2 at hw ⊢
        by_cases hD : R2 = 65533 ∧ K2 ≤ 1
        · rw [if_pos hD] at hw
          have e4 : ((R2 : Int) == 65533) = true := by simp; omega
          have e5 : ((K2 : Int) ≤ 1) = True := eq_true (by omega)
          have Hw := Lib.hid hw
          clear hw hR2 hK2 hD
          go_wp2_with fail
          go_ret
          exact ⟨congrArg (fun z => Ending.returned (Value.bool z)) Hw.out.symm, Hc2.out⟩
        · rw [if_neg hD] at hw
          have e45 : (((R2 : Int) == 65533) = true ∧ ((K2 : Int) ≤ 1) = False) ∨ ((R2 : Int) == 65533) = false := by
            by_cases h1 : R2 = 65533
            · exact .inl ⟨by simp; omega, eq_false (by omega)⟩
            · exact .inr (by simp; omega)
          have hs2 := start_any R2 w2
          generalize hq : isStart R2 = q at hw hs2
          have e6 : (((R2 : Int) == 45) = true ∧ wouldB s = true) ∨ (((R2 : Int) == 45) = false ∧ wouldB s = q) := by
            by_cases h1 : R2 = 45
            · exact .inl ⟨by simp; omega, by rw [hw, decide_eq_true h1]; simp⟩
            · exact .inr ⟨by simp; omega, by rw [hw, decide_eq_false h1]; simp⟩
          clear hw hR2 hK2 hD hq
          rcases e6 with ⟨e6, e7⟩ | ⟨e6, e7⟩ <;> have E7 := Lib.hid e7 <;> clear e7 <;> rcases e45 with ⟨e4, e5⟩ | e4 <;> cases q
          all_goals
            go_wp2_with fail
            refine hs2.mono ?_
            rintro ex w3 ⟨rfl, rfl⟩
            go_wp2_with fail
            go_ret
            exact ⟨congrArg (fun z => Ending.returned (Value.bool z)) E7.out.symm, Hc2.out⟩
      · rw [if_neg hC] at hw
        rw [hw]
        have e3 : ((R : Int) == 45) = false := by simp; omega
        clear hw h45 hA
        rcases e12 with ⟨e1, e2⟩ | e1
        all_goals
          go_enter Tryf.func24, Tryf.ntmps24
          go_wp2_with fail
          refine hd1.mono ?_
          rintro ex w1 ⟨rfl, hc⟩
          have Hc := Lib.hid hc
          clear hc
          go_wp2_with fail
          refine (hs1 w1).mono ?_
          rintro ex w2 ⟨rfl, rfl⟩
          go_wp2_with fail
          go_ret
          exact ⟨rfl, Hc.out⟩
end Go.Proofs.YtgfiigonjleeeaaFmt
