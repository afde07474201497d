/-
  Proved: contract of the law's own model at this program (zzPostModel). No statement of the seat stands here.
-/
import Derived.Test.YtmhjhipldabaoaaFmtDec
namespace Go.Proofs.YtmhjhipldabaoaaFmt
open Go.RowKit Go.ChangeAt
set_option linter.unusedSimpArgs false
set_option linter.unusedVariables false
theorem end_iff (out : List UInt8) (h : 0 < out.length) (v : UInt8) : Lib.hasSuffix out [v] = (bt ⟨out.toArray⟩ (out.length - 1) == v.toNat) := by
  have hne : out ≠ [] := by intro h'; subst h'; simp at h
  obtain ⟨l, x, rfl⟩ : ∃ l x, out = l ++ [x] := ⟨out.dropLast, out.getLast hne, (List.dropLast_concat_getLast hne).symm⟩
  have hb : bt ⟨(l ++ [x]).toArray⟩ ((l ++ [x]).length - 1) = x.toNat := by
    have hs : (⟨(l ++ [x]).toArray⟩ : ByteArray).size = l.length + 1 := by show (l ++ [x]).length = _; simp
    rw [← bt_eq _ _ (by rw [hs]; simp)]
    congr 1
    show (l ++ [x]).toArray[(l ++ [x]).length - 1]'_ = x
    simp
  rw [hb]
  unfold Lib.hasSuffix
  rw [Bool.eq_iff_iff]
  simp only [List.isSuffixOf_iff_suffix, beq_iff_eq]
  constructor
  · intro hs
    have h2 := List.suffix_iff_eq_drop.1 hs
    simp at h2
    rw [h2]
  · intro hx
    have : x = v := UInt8.toNat_inj.1 hx
    subst this
    exact ⟨l, rfl⟩
def MOut (o : ByteArray) (st : Nat) (w : World) (e : Ending) (w' : World) : Prop := e = .returned (.tuple #[.string o, .int .u8 st]) ∧ Below w.heap.size w w'
theorem model_any (s : ByteArray) (hs : s.size ≤ 1048576) (st : Nat) (hst : st < 256) (w : World) : Calls Tryf.prog 10 #[.string s, .int .u8 st] w (MOut (post s st).1 (post s st).2 w) := by
  have Hact := fun W => zzActive_any st hst W
  have Hdec := fun W => zzdecode_any s hs W
  unfold post
  cases ha : act st with
  | false =>
    have Ha := Lib.hid ha
    rw [ha] at Hact
    clear ha
    simp only [Bool.false_eq_true, ↓reduceIte]
    go_enter Tryf.func10, Tryf.ntmps10
    go_wp2_with (go_at_call 12; refine (Hact _).mono ?_; rintro e w' ⟨rfl, rfl⟩)
    go_ret2
    exact ⟨rfl, Below.refl _ _⟩
  | true =>
    rw [ha] at Hact
    clear ha
    simp only [↓reduceIte]
    cases hd : dec (bt s) s.size 0 with
    | none =>
      have Hd := Lib.hid hd
      clear hd
      simp only
      go_enter Tryf.func10, Tryf.ntmps10
      go_wp2_with fail
      refine (Hact _).mono ?_
      rintro e w' ⟨rfl, rfl⟩
      go_wp2_with fail
      refine (Hdec _).mono ?_
      rintro e w1 ⟨h1, _, hb⟩
      obtain rfl := h1 Hd.out
      have Hb := Lib.hid hb
      clear h1 hb
      go_wp2
      go_ret2
      exact ⟨rfl, Hb.out⟩
    | some r =>
      obtain ⟨out, sl⟩ := r
      have Hol := Lib.hid (len_of_dec hd)
      have hsz : (⟨out.toArray⟩ : ByteArray).size = out.length := rfl
      have Hd := Lib.hid hd
      clear hd
      cases sl with
      | true =>
        simp only [↓reduceIte]
        go_enter Tryf.func10, Tryf.ntmps10
        go_wp2_with fail
        refine (Hact _).mono ?_
        rintro e w' ⟨rfl, rfl⟩
        go_wp2_with fail
        refine (Hdec _).mono ?_
        rintro e w1 ⟨_, h1, hb⟩
        obtain rfl := h1 _ _ Hd.out
        have Hb := Lib.hid hb
        clear h1 hb
        go_wp2
        go_ret2
        exact ⟨rfl, Hb.out⟩
      | false =>
        simp only [Bool.false_eq_true, ↓reduceIte]
        by_cases h0 : 0 < out.length
        · have e1 := end_iff out h0 47
          have e2 := end_iff out h0 92
          have hend : endSl out = ((bt ⟨out.toArray⟩ (out.length - 1) == 47) || (bt ⟨out.toArray⟩ (out.length - 1) == 92)) := by
            unfold endSl
            rw [e1, e2]
            rfl
          clear e1 e2
          have hol : out.length ≤ 1048576 := by have := Hol.out; omega
          have hge : 0 ≤ (out.length : Int) - 1 := by omega
          have hl2 : ((out.length : Int) - 1).toNat = out.length - 1 := by omega
          have hbt := bt_eq ⟨out.toArray⟩ (out.length - 1) (by rw [hsz]; omega)
          have Hlt := Lib.hid (bt_lt ⟨out.toArray⟩ (out.length - 1))
          generalize bt ⟨out.toArray⟩ (out.length - 1) = z at *
          rw [hend]
          clear hend
          by_cases hz1 : z = 47
          · subst hz1
            simp only [beq_self_eq_true, Bool.true_or, ↓reduceIte]
            go_enter Tryf.func10, Tryf.ntmps10
            go_wp2_with fail
            refine (Hact _).mono ?_
            rintro e w' ⟨rfl, rfl⟩
            go_wp2_with fail
            refine (Hdec _).mono ?_
            rintro e w1 ⟨_, h1, hb⟩
            obtain rfl := h1 _ _ Hd.out
            have Hb := Lib.hid hb
            clear h1 hb
            go_wp2
            go_ret2
            exact ⟨rfl, Hb.out⟩
          · by_cases hz2 : z = 92
            · subst hz2
              simp only [show ((92 : Nat) == 47) = false from rfl, beq_self_eq_true, Bool.false_or, ↓reduceIte]
              go_enter Tryf.func10, Tryf.ntmps10
              go_wp2_with fail
              refine (Hact _).mono ?_
              rintro e w' ⟨rfl, rfl⟩
              go_wp2_with fail
              refine (Hdec _).mono ?_
              rintro e w1 ⟨_, h1, hb⟩
              obtain rfl := h1 _ _ Hd.out
              have Hb := Lib.hid hb
              clear h1 hb
              go_wp2
              go_ret2
              exact ⟨rfl, Hb.out⟩
            · have hx1 : (z == 47) = false := by simp; omega
              have hx2 : (z == 92) = false := by simp; omega
              have hy1 : ((z : Int) == 47) = false := by simp; omega
              have hy2 : ((z : Int) == 92) = false := by simp; omega
              rw [hx1, hx2]
              simp only [Bool.or_self, Bool.false_eq_true, ↓reduceIte]
              clear hx1 hx2
              go_enter Tryf.func10, Tryf.ntmps10
              go_wp2_with fail
              refine (Hact _).mono ?_
              rintro e w' ⟨rfl, rfl⟩
              go_wp2_with fail
              refine (Hdec _).mono ?_
              rintro e w1 ⟨_, h1, hb⟩
              obtain rfl := h1 _ _ Hd.out
              have Hb := Lib.hid hb
              clear h1 hb
              go_wp2
              go_ret2
              exact ⟨rfl, Hb.out⟩
        · have h00 : out = [] := List.eq_nil_of_length_eq_zero (by omega)
          subst h00
          have hend : endSl [] = false := by rfl
          rw [hend]
          simp only [Bool.false_eq_true, ↓reduceIte]
          go_enter Tryf.func10, Tryf.ntmps10
          go_wp2_with fail
          refine (Hact _).mono ?_
          rintro e w' ⟨rfl, rfl⟩
          go_wp2_with fail
          refine (Hdec _).mono ?_
          rintro e w1 ⟨_, h1, hb⟩
          obtain rfl := h1 _ _ Hd.out
          have Hb := Lib.hid hb
          clear h1 hb
          go_wp2
          go_ret2
          exact ⟨rfl, Hb.out⟩
end Go.Proofs.YtmhjhipldabaoaaFmt
