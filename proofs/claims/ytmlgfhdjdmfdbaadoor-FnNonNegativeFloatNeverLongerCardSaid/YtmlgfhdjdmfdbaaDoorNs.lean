/-
  Proved: the text of a number is of one of the four forms, plain. No statement of the seat stands here.
-/
import Derived.Test.YtmlgfhdjdmfdbaaDoorNf
namespace Go.Proofs.YtmlgfhdjdmfdbaaDoor
set_option linter.unusedSimpArgs false
set_option linter.unusedVariables false
set_option maxRecDepth 100000
theorem NoB.app {c : Nat} {a b : List UInt8} (h1 : NoB c a) (h2 : NoB c b) : NoB c (a ++ b) := fun x hx => by
  rcases List.mem_append.1 hx with h | h
  · exact h1 x h
  · exact h2 x h
theorem NoB.cons {c : Nat} {x : UInt8} {b : List UInt8} (h1 : x.toNat ≠ c) (h2 : NoB c b) : NoB c (x :: b) := fun y hy => by
  rcases List.mem_cons.1 hy with rfl | h
  · exact h1
  · exact h2 y h
theorem NoB.nil {c : Nat} : NoB c [] := fun x hx => by cases hx
theorem dig_noB {c : Nat} {l : List UInt8} (h : ∀ x ∈ l, 48 ≤ x.toNat ∧ x.toNat ≤ 57) (hc : c < 48 ∨ 57 < c) : NoB c l := fun x hx => by
  have := h x hx; omega
theorem rep_noB (c n : Nat) (hc : c ≠ 48) : NoB c (List.replicate n 48) := fun x hx => by
  rw [List.eq_of_mem_replicate hx]; exact fun h => hc h.symm
theorem txtG_neg (ds : List UInt8) (dp : Int) (h : dp ≤ -4) : txtG false ds dp = mkE (preOf ds) true (expZ (1 - dp).toNat) (expS (1 - dp).toNat) := by
  rw [← txtE_eq]; unfold txtG; rw [if_pos h]; rfl
theorem txtG_pos (ds : List UInt8) (dp : Int) (h0 : ¬ dp ≤ -4) (h : 7 ≤ dp) : txtG false ds dp = mkE (preOf ds) false (expZ (dp - 1).toNat) (expS (dp - 1).toNat) := by
  rw [← txtE_eq]; unfold txtG; rw [if_neg h0, if_pos h]; rfl
theorem expZ_le (x : Nat) : expZ x ≤ 1 := by unfold expZ; split <;> omega
theorem simp_of (ds : List UInt8) (dp : Int) (h : DsOk ds) (hb : -890 ≤ dp ∧ dp ≤ 890) : Simp (txtG false ds dp) (rOf ds dp) := by
  by_cases h1 : dp ≤ -4
  · exact .exp (preOf ds) (expS (1 - dp).toNat) true (expZ (1 - dp).toNat) (txtG_neg ds dp h1) (by unfold rOf; rw [if_pos h1]) (expZ_le _) (es_ok _ (by omega) (by omega))
  · by_cases h2 : 7 ≤ dp
    · exact .exp (preOf ds) (expS (dp - 1).toNat) false (expZ (dp - 1).toNat) (txtG_pos ds dp h1 h2) (by unfold rOf; rw [if_neg h1, if_pos h2]) (expZ_le _) (es_ok _ (by omega) (by omega))
    · refine .plain ?_ (by unfold rOf; rw [if_neg h1, if_neg h2])
      have hd := dig_noB (c := 101) h.dig (.inr (by omega))
      unfold txtG
      rw [if_neg h1, if_neg h2]
      have hs : NoB 101 (signB false) := NoB.nil
      split
      · exact hs.app ((NoB.app (NoB.cons (by decide) (NoB.cons (by decide) NoB.nil)) (rep_noB _ _ (by omega))).app hd)
      · split
        · exact hs.app (hd.app (rep_noB _ _ (by omega)))
        · exact hs.app ((NoB.app (fun x hx => hd x (List.mem_of_mem_take hx)) (NoB.cons (by decide) NoB.nil)).app (fun x hx => hd x (List.mem_of_mem_drop hx)))
theorem form_e (ds : List UInt8) (neg mn : Bool) (x : Nat) (h : DsOk ds) (hx : 1 ≤ x ∧ x < 1000) (hl : ds.length ≤ 1) : Form (mkR (preOf ds) neg (expS x)) mn (lenC (mkR (preOf ds) neg (expS x))) := by
  obtain ⟨d, r, rfl, hd⟩ := h.head
  have hdig := h.dig d (List.mem_cons_self)
  have hes := es_ok x hx.1 hx.2
  have hp : preOf (d :: r) = [d] := by unfold preOf fracE; rw [if_pos hl]; rfl
  rw [hp]
  refine .none ?_ (by unfold mkR; simp) hd rfl
  unfold mkR
  refine NoB.app (NoB.cons (by omega) NoB.nil) (NoB.cons (by decide) (NoB.app ?_ (dig_noB hes.dig (.inl (by omega)))))
  cases neg
  · exact NoB.nil
  · exact NoB.cons (by decide) NoB.nil
theorem form_b (ds : List UInt8) (neg mn : Bool) (x : Nat) (h : DsOk ds) (hx : 1 ≤ x ∧ x < 1000) (hl : ¬ ds.length ≤ 1) :
    Form (mkR (preOf ds) neg (expS x)) mn (lenB (ds.length - 1) (if neg then -((pv (expS x) : Nat) : Int) else ((pv (expS x) : Nat) : Int)) (mkR (preOf ds) neg (expS x)).length) := by
  obtain ⟨d, r, rfl, hd⟩ := h.head
  have hdig := h.dig d (List.mem_cons_self)
  have hes := es_ok x hx.1 hx.2
  have h20 := h.len.2
  have hp : preOf (d :: r) = d :: 46 :: r := by unfold preOf fracE; rw [if_neg hl]; rfl
  rw [hp]
  exact .pexp d r (expS x) neg rfl hd (by omega) (dig_noB (fun y hy => h.dig y (List.mem_cons_of_mem _ hy)) (.inl (by omega))) (by simp at h20; omega) hes rfl
theorem form_of (ds : List UInt8) (dp : Int) (mn : Bool) (h : DsOk ds) (hb : -890 ≤ dp ∧ dp ≤ 890) : Form (rOf ds dp) mn (len2 ds dp mn) := by
  unfold len2
  by_cases h1 : dp ≤ -4
  · have hr : rOf ds dp = mkR (preOf ds) true (expS (1 - dp).toNat) := by unfold rOf; rw [if_pos h1]
    rw [if_pos h1, hr]
    by_cases h2 : ds.length ≤ 1
    · rw [if_pos h2]; exact form_e ds true mn _ h (by omega) h2
    · rw [if_neg h2]; exact form_b ds true mn _ h (by omega) h2
  · rw [if_neg h1]
    by_cases h2 : 7 ≤ dp
    · have hr : rOf ds dp = mkR (preOf ds) false (expS (dp - 1).toNat) := by unfold rOf; rw [if_neg h1, if_pos h2]
      rw [if_pos h2, hr]
      by_cases h3 : ds.length ≤ 1
      · rw [if_pos h3]; exact form_e ds false mn _ h (by omega) h3
      · rw [if_neg h3]; exact form_b ds false mn _ h (by omega) h3
    · have hr : rOf ds dp = txtG false ds dp := by unfold rOf; rw [if_neg h1, if_neg h2]
      rw [if_neg h2, hr]
      by_cases h3 : dp ≤ 0
      · rw [if_pos h3, txtZ ds dp h1 h3]
        exact .zero _ ds rfl h rfl (by omega)
      · rw [if_neg h3]
        have hd46 := dig_noB (c := 46) h.dig (.inl (by omega))
        have hd101 := dig_noB (c := 101) h.dig (.inr (by omega))
        obtain ⟨d, r, hdr, hd⟩ := h.head
        by_cases h4 : ds.length ≤ dp.toNat
        · rw [if_pos h4]
          have e : txtG false ds dp = ds ++ List.replicate (dp.toNat - ds.length) 48 := by
            unfold txtG; rw [if_neg h1, if_neg h2, if_neg h3, if_pos h4]; rfl
          rw [e]
          exact .none (hd46.app (rep_noB _ _ (by omega))) (by have := h.len.1; simp; omega) (by rw [hdr]; exact hd) rfl
        · rw [if_neg h4]
          have e : txtG false ds dp = ds.take dp.toNat ++ 46 :: ds.drop dp.toNat := by
            unfold txtG; rw [if_neg h1, if_neg h2, if_neg h3, if_neg h4]; simp [signB]
          rw [e]
          have hk : ∃ k, dp.toNat = k + 1 := ⟨dp.toNat - 1, by omega⟩
          obtain ⟨k, hk⟩ := hk
          refine .point (ds.take dp.toNat) (ds.drop dp.toNat) rfl (fun x hx => hd46 x (List.mem_of_mem_take hx)) ?_ ?_ (by rw [List.length_take]; omega) rfl
          · exact NoB.app (fun x hx => hd101 x (List.mem_of_mem_take hx)) (NoB.cons (by decide) (fun x hx => hd101 x (List.mem_of_mem_drop hx)))
          · rw [hk, hdr]; exact hd
theorem txtG_max (ds : List UInt8) (dp : Int) (h : DsOk ds) (hb : -890 ≤ dp ∧ dp ≤ 890) : (txtG false ds dp).length ≤ 1000 := by
  have hl := h.len.2
  have hf : (preOf ds).length ≤ 23 := by unfold preOf fracE; split <;> simp <;> omega
  by_cases h1 : dp ≤ -4
  · rw [txtG_neg ds dp h1]
    have := (es_ok (1 - dp).toNat (by omega) (by omega)).len
    have hz := expZ_le (1 - dp).toNat
    generalize expZ (1 - dp).toNat = z at *
    generalize expS (1 - dp).toNat = es at *
    unfold mkE; simp; omega
  · by_cases h2 : 7 ≤ dp
    · rw [txtG_pos ds dp h1 h2]
      have := (es_ok (dp - 1).toNat (by omega) (by omega)).len
      have hz := expZ_le (dp - 1).toNat
      generalize expZ (dp - 1).toNat = z at *
      generalize expS (dp - 1).toNat = es at *
      unfold mkE; simp; omega
    · unfold txtG
      rw [if_neg h1, if_neg h2]
      split
      · simp [signB]; omega
      · split
        · simp [signB]; omega
        · simp [signB]; omega
/-- Of a positive number that is no zero and finite. -/
structure Txt (b : Nat) (mn : Bool) : Prop where
  text : ffText b = txtG false (dsOf (fR b).1) (fDp b)
  simp : Simp (ffText b) (rOf (dsOf (fR b).1) (fDp b))
  form : Form (rOf (dsOf (fR b).1) (fDp b)) mn (len2 (dsOf (fR b).1) (fDp b) mn)
  tl : (ffText b).length ≤ 1000
  rl : (rOf (dsOf (fR b).1) (fDp b)).length ≤ 1000
  nl : len2 (dsOf (fR b).1) (fDp b) mn ≤ (ffText b).length
theorem txt_of (b : Nat) (mn : Bool) (hb : b < 18446744073709551616) (hE : fE b ≠ 2047) (hz : fMant b ≠ 0) (hn : fNeg b = false) : Txt b mn := by
  have hf := fin64 b hb hE hz
  have hs := short_sizes b hf
  have hd := ds_ok (fR b).1 hs.d1 (by have := hs.d2; omega)
  have hnd : Lib.nDigits (fR b).1 ≤ 19 := nDigits_le _ 19 (by have := hs.d2; omega) (by omega)
  have hdp : -890 ≤ fDp b ∧ fDp b ≤ 890 := by have := hs.k; unfold fDp; omega
  have ht : ffText b = txtG false (dsOf (fR b).1) (fDp b) := by unfold ffText; rw [if_neg hE, hn]
  have hl := txtG_max (dsOf (fR b).1) (fDp b) hd hdp
  have hle := len2_le (dsOf (fR b).1) (fDp b)
  refine ⟨ht, by rw [ht]; exact simp_of _ _ hd hdp, form_of _ _ mn hd hdp, by rw [ht]; exact hl, Nat.le_trans (rOf_le _ _) hl, ?_⟩
  rw [ht]
  cases mn
  · exact hle.1
  · exact Nat.le_trans hle.2 hle.1
end Go.Proofs.YtmlgfhdjdmfdbaaDoor
