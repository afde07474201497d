/-
  Proved: the law's walk. No statement of the seat stands here.
-/
import Derived.Test.YtbbanpfkicdnmaaFmtZprint
import Derived.Deep.LoopGhost
import Derived.Deep.DeepCutAuto
namespace Go.Proofs.YtbbanpfkicdnmaaFmt
open Go.RowKit Go.ChangeAt
set_option linter.unusedSimpArgs false
set_option linter.unusedVariables false
set_option maxRecDepth 100000
def TrueOut (w : World) (e : Ending) (w' : World) : Prop := e = .returned (.bool true) ∧ Chg Nowhere w w'
/-- How many tokens the first k items make. -/
def cnt (k : Nat) : Nat := 2 * k - 1
def TL (l : List UInt8) (k : Nat) : ByteArray := txt (byteOf l k)
theorem plain_txt (c : Nat) : Plain (txt c) := by
  have h : ∀ (t : ByteArray) (n : Nat), t.size = n → 0 < n → (∀ i, i < n → 97 ≤ bt t i ∧ bt t i ≤ 122) → Plain t := by
    intro t n h1 h2 h3
    subst h1
    refine ⟨h2, .inr (.inl (h3 0 h2)), fun j hj => .inl (.inl (h3 j hj))⟩
  unfold txt
  split
  · exact h _ 1 rfl (by decide) (by decide)
  · split
    · exact h _ 2 rfl (by decide) (by decide)
    · split
      · exact h _ 3 rfl (by decide) (by decide)
      · exact h _ 2 rfl (by decide) (by decide)
theorem text_len (sep : List UInt8) (T : Nat → ByteArray) (hT : ∀ i, (T i).size ≤ 3) (lead : Bool) (k : Nat) : (textTo sep T lead k).length ≤ (k + 1) / 2 * (sep.length + 3) + k := by
  induction k with
  | zero => simp [textTo]
  | succ k ih =>
    have ht : (T (k / 2)).data.toList.length ≤ 3 := by rw [Array.length_toList]; exact hT _
    have hm : (k + 1) / 2 * (sep.length + 3) ≤ (k + 1 + 1) / 2 * (sep.length + 3) := Nat.mul_le_mul_right _ (by omega)
    by_cases hk : k % 2 = 1
    · rw [text_odd hk, List.length_append, List.length_cons, List.length_nil]
      omega
    · have e : (k + 1 + 1) / 2 = (k + 1) / 2 + 1 := by omega
      rw [text_even (by omega), List.length_append, List.length_append, e, Nat.add_mul, Nat.one_mul]
      have h2 : (if k = 0 then (if lead = true then sep else []) else sep).length ≤ sep.length := by
        split
        · split <;> simp
        · exact Nat.le_refl _
      omega
theorem text_bound (l : List UInt8) (lead mu : Bool) (ind fac : Int) (n N : Nat) (h1 : ind + 3 ≤ fac) (h2 : 3 ≤ fac) (hq : (n : Int) * fac ≤ 1048576) (hN : N = 2 * (n - 1) + 1) (hn : n ≤ 65536) (hi : ind ≤ 65536) :
    ∀ k, k ≤ N → (textTo (sepOf mu ind) (TL l) lead k).length ≤ 100000000 := by
  intro k hk
  have h := text_len (sepOf mu ind) (TL l) (fun i => txt_size _) lead k
  have hs : ((sepOf mu ind).length : Int) + 3 ≤ 2 * fac + 3 := by
    unfold sepOf
    split
    · rw [List.length_cons, spaces_length]; omega
    · simp; omega
  have h3 : ((k + 1) / 2 : Nat) ≤ n + 1 := by omega
  have h4 : (((k + 1) / 2 : Nat) : Int) * (((sepOf mu ind).length : Int) + 3) ≤ ((n : Int) + 1) * (2 * fac + 3) := Int.mul_le_mul (by omega) hs (by omega) (by omega)
  have h5 : ((n : Int) + 1) * (2 * fac + 3) = 2 * ((n : Int) * fac) + 3 * n + 2 * fac + 3 := by
    rw [Int.add_mul, Int.mul_add, Int.one_mul, Int.mul_left_comm]; omega
  have h6 : fac ≤ 1048576 ∨ n = 0 := by
    by_cases hz : n = 0
    · exact .inr hz
    · left
      have : 1 * fac ≤ (n : Int) * fac := Int.mul_le_mul_of_nonneg_right (by omega) (by omega)
      omega
  have h7 : (((k + 1) / 2 * ((sepOf mu ind).length + 3) : Nat) : Int) = (((k + 1) / 2 : Nat) : Int) * (((sepOf mu ind).length : Int) + 3) := by push_cast; rfl
  have hl := sepOf_length mu ind hi
  rcases h6 with h6 | h6
  · omega
  · subst h6
    have : (k + 1) / 2 * ((sepOf mu ind).length + 3) ≤ 1 * ((sepOf mu ind).length + 3) := Nat.mul_le_mul_right _ (by omega)
    omega
/-- What the law writes for the first k items. -/
def wantAt (sep : List UInt8) (T : Nat → ByteArray) (lead : Bool) (k : Nat) : List UInt8 := if k = 0 then (if lead = true then sep else []) else textTo sep T lead (2 * (k - 1) + 1)
theorem want_zero (sep : List UInt8) (T : Nat → ByteArray) (lead : Bool) : wantAt sep T lead 1 = wantAt sep T lead 0 ++ (T 0).data.toList := by
  simp [wantAt, textTo]
theorem want_step (sep : List UInt8) (T : Nat → ByteArray) (lead : Bool) {k : Nat} (hk : k ≠ 0) : wantAt sep T lead (k + 1) = wantAt sep T lead k ++ [44] ++ sep ++ (T k).data.toList := by
  unfold wantAt
  rw [if_neg (by omega), if_neg hk, show 2 * (k + 1 - 1) + 1 = (2 * (k - 1) + 1 + 1) + 1 by omega, text_even (by omega), text_odd (by omega), if_neg (by omega), show (2 * (k - 1) + 1 + 1) / 2 = k by omega]
  simp only [List.append_assoc]
theorem want_end (sep : List UInt8) (T : Nat → ByteArray) (lead : Bool) {k N : Nat} (hk : k ≠ 0) (hN : N = 2 * (k - 1) + 1) : wantAt sep T lead k = textTo sep T lead N := by
  unfold wantAt
  rw [if_neg hk, hN]
theorem want_len (mu : Bool) (ind : Int) (hi : ind ≤ 65536) (T : Nat → ByteArray) (lead : Bool) {n N : Nat} (hN : N = 2 * (n - 1) + 1) (hb : ∀ k, k ≤ N → (textTo (sepOf mu ind) T lead k).length ≤ 100000000) {k : Nat} (hk : k ≤ n) : (wantAt (sepOf mu ind) T lead k).length ≤ 100000000 := by
  have := sepOf_length mu ind hi
  unfold wantAt
  split
  · split
    · omega
    · simp
  · exact hb _ (by omega)
theorem sep_mul (mu : Bool) (ind fac : Int) (n : Nat) (h1 : ind + 3 ≤ fac) (h2 : 3 ≤ fac) (hq : (n : Int) * fac ≤ 1048576) : ((sepOf mu ind).length : Int) * (n : Int) ≤ 2097152 := by
  have hs : ((sepOf mu ind).length : Int) ≤ 2 * fac := by
    unfold sepOf
    split
    · rw [List.length_cons, spaces_length]; omega
    · simp; omega
  have : ((sepOf mu ind).length : Int) * (n : Int) ≤ (2 * fac) * n := Int.mul_le_mul_of_nonneg_right hs (by omega)
  have e : (2 * fac) * (n : Int) = 2 * ((n : Int) * fac) := by rw [Int.mul_assoc, Int.mul_comm fac]
  omega
theorem RowAt.wide {w w1 wr : World} {vo : Option Addr} {L vc : Nat} {out : List UInt8} (h : RowAt w1 wr vo L vc out) (hc : Chg Nowhere w w1) : RowAt w wr vo L vc out := by
  refine ⟨h.len, ?_, hc.trans h.chg (fun _ _ h => h)⟩
  obtain ⟨h1, h2⟩ := h.own
  refine ⟨h1, h2.imp id ?_⟩
  rintro ⟨g, cap, cur, e1, e2, e3⟩
  exact ⟨g, cap, cur, e1, Nat.le_trans hc.size e2, e3⟩
theorem make22 (x : Int) (h0 : 0 ≤ x) (h1 : x ≤ 1000000000) (W : World) : (Instr.makeSlice 22 (.int .i64 0) (.int .i64 x)).run Tryf.prog W = .ok (.slice (some ⟨W.heap.size, 0, none⟩) 0 x.toNat) (W.alloc (.cells (madeCells #[.int .u8 0] x.toNat) 5)) := by
  obtain ⟨i0, hi, hz0, hz1, hz2⟩ := info_parts info5
  have h := run_make (P := Tryf.prog) W 22 5 i0 _ Tryf.underlying22 hi hz0 .i64 .i64 0 x (by omega) (by omega) (by rw [hz2]; omega) (by omega)
  rw [h, hz1]
  simp [Value.cells]
set_option maxHeartbeats 16000000 in
theorem law4 (a : Option Addr) (c : Nat) (l : List UInt8) (lead m dec : Bool) (ind : Int) (w : World) (hr : Reads w a l.length (byteAt l)) :
    Calls Tryf.prog 4 #[.slice a l.length c, .bool lead, .bool m, .bool dec, .int .i32 ind] w (TrueOut w) := by
  have HR := Lib.hid hr
  clear hr
  obtain ⟨n, hn⟩ : ∃ n, n = l.length := ⟨_, rfl⟩
  rw [← hn] at HR ⊢
  have Hn := Lib.hid hn
  clear hn
  go_enter Tryf.func4, Tryf.ntmps4
  go_wp2_with fail
  refine (zb10 a n c _ _ _ _ w).mono ?_
  rintro ex w1 ⟨r, rfl, rfl, hr⟩
  cases r
  · clear hr
    go_wp2_with fail
    go_ret
    exact ⟨rfl, Chg.refl _ _⟩
  have hnb := hr rfl
  clear hr
  by_cases hn2 : n ≤ 65536
  case neg =>
    have x1 : (65536 : Int) < (n : Int) := by omega
    go_wp2_with fail
    go_ret
    exact ⟨rfl, Chg.refl _ _⟩
  have x1 : ¬ (65536 : Int) < (n : Int) := by omega
  by_cases hi0 : -65536 ≤ ind
  case neg =>
    have x2 : ind < -65536 := by omega
    go_wp2_with fail
    go_ret
    exact ⟨rfl, Chg.refl _ _⟩
  have x2 : ¬ ind < -65536 := by omega
  by_cases hi1 : ind ≤ 65536
  case neg =>
    have x3 : 65536 < ind := by omega
    go_wp2_with fail
    go_ret
    exact ⟨rfl, Chg.refl _ _⟩
  have x3 : ¬ 65536 < ind := by omega
  obtain ⟨fac, hfac⟩ : ∃ fac : Int, fac = if ind + 3 < 3 then 3 else ind + 3 := ⟨_, rfl⟩
  have hf0 : 3 ≤ fac ∧ fac ≤ 65539 ∧ ind + 3 ≤ fac := by rw [hfac]; split <;> omega
  obtain ⟨hf1, hf2, hf3⟩ := hf0
  have hp0 : 0 ≤ (n : Int) * fac := Int.mul_nonneg (by omega) (by omega)
  have hp1 : (n : Int) * fac ≤ 65536 * 65539 := Int.mul_le_mul (by omega) hf2 (by omega) (by omega)
  have hw1 : IntKind.i64.wrap ((n : Int) * fac) = (n : Int) * fac := IntWalk.i64_in _ (by omega)
  have hw2 : IntKind.i64.wrap ind = ind := IntWalk.i64_in _ (by omega)
  have hw3 : IntKind.i64.wrap (ind + 3) = ind + 3 := IntWalk.i64_in _ (by omega)
  have Hfac := Lib.hid hfac
  clear hfac
  go_upto_if 43 with fail
  go_cut [11] (fun c11 wx => c11 = .int .i64 fac ∧ wx = w)
  case first =>
    have hfac := Hfac.out
    by_cases h3 : ind + 3 < 3
    · rw [if_pos h3] at hfac
      subst hfac
      go_wp2_with fail
      go_meet
      case rel => exact ⟨rfl, rfl⟩
    · rw [if_neg h3] at hfac
      subst hfac
      go_wp2_with fail
      go_meet
      case rel => exact ⟨rfl, rfl⟩
  case rest =>
  obtain ⟨rfl, rfl⟩ := hcut
  by_cases hq : (n : Int) * fac ≤ 1048576
  case neg =>
    have x4 : (1048576 : Int) < (n : Int) * fac := by omega
    go_wp2_with fail
    go_ret
    exact ⟨rfl, Chg.refl _ _⟩
  have x4 : ¬ (1048576 : Int) < (n : Int) * fac := by omega
  by_cases hz : n = 0
  · have x5 : ((n : Int) == 0) = true := beq_iff_eq.2 (by omega)
    go_wp2_with fail
    go_ret
    exact ⟨rfl, Chg.refl _ _⟩
  have x5 : ((n : Int) == 0) = false := beq_eq_false_iff_ne.2 (by omega)
  have hmk := make24 n (by omega) wc
  have Ht0 := Lib.hid (TokRow.start wc (TL l) lead n (by omega))
  go_wp2_with fail
  clear hmk
  go_loopw [12, 13] (fun tk i wr => ∃ k : Nat, ∃ vo vc, k ≤ n ∧ i = .int .i64 k ∧ tk = .slice vo (cnt k) vc ∧ TokRow wc wr (TL l) lead vo (cnt k) vc) (fun _ i _ => n - (intOf i).toNat)
  case atStart => exact ⟨0, _, _, by omega, rfl, rfl, Ht0.out⟩
  case round =>
    obtain ⟨k, vo, vc, hk, rfl, rfl, htr⟩ := hrel
    obtain ⟨L, hL⟩ : ∃ L, L = cnt k := ⟨_, rfl⟩
    rw [← hL] at htr ⊢
    have Htr := Lib.hid htr
    have hsr := htr.chg.size
    by_cases hlt : k < n
    · rcases HR.out with h0 | ⟨g, o, rfl, hR1⟩
      · omega
      have hc := htr.chg.cell (hR1 k hlt) (fun h => h)
      have Hcw := Lib.hid (hR1 k hlt)
      clear htr hR1
      unfold byteAt at hc
      have hx0 : (0 : Int) ≤ (k : Int) := by omega
      have hx1 : (k : Int) < (n : Int) := by omega
      have htc := byteOf_lt l k
      obtain ⟨q, hq2⟩ : ∃ q, q = byteOf l k := ⟨_, rfl⟩
      rw [← hq2] at hc htc
      have Hq := Lib.hid hq2
      clear hq2
      unfold cnt at hL
      have hL1 : L ≤ 200000 := by omega
      have HL := Lib.hid hL
      clear hL
      obtain ⟨i0, hi, hz0, hz1, hz2⟩ := info_parts info40
      by_cases hk0 : k = 0
      · have e0 : ((k : Int) == 0) = true := beq_iff_eq.2 (by omega)
        have e1 : ¬ (0 : Int) < (k : Int) := by omega
        obtain rfl : L = 0 := by have := HL.out; omega
        have Hk0 := Lib.hid hk0
        clear hk0
        cases lead
        · go_wp2_with fail
          refine (text11 q htc wr).mono ?_
          rintro ey wy ⟨rfl, rfl⟩
          go_wp2_with (at_builtin; go_loud (refine wpList_append_fresh _ rfl (.tmp 80) (.tmp 82) 24 rfl wc.heap.size 40 i0 _ 7 40 Tryf.underlying24 hi hz0 hz1 hz2 rfl (by decide) vo (0) vc _ rfl ((Htr.out.own.alloc _).alloc _) (some ⟨wr.heap.size + 1, 0, none⟩) 1 1 [.pointer none, .string (txt q), .int .i32 0, .int .u32 0, .int .u16 0, .int .u8 29, .int .u8 0] rfl rfl (by simp) (fun a ha j u hu => cells_new (wr.alloc (.cells #[.pointer none, .string (txt q), .int .i32 0, .int .u32 0, .int .u16 0, .int .u8 29, .int .u8 0] 40)) #[.pointer none, .string (txt q), .int .i32 0, .int .u32 0, .int .u16 0, .int .u8 29, .int .u8 0] 40 a (by simpa using ha) j u hu) (by simp [Value.oneCell']) (by unfold maxLen; omega) (by omega) (by simp; omega) ?_; intro vp vcp wp hown1 hg1 hf1; have Hownp := Lib.hid hown1; have Hgp := Lib.hid hg1; clear hown1 hg1 hf1))
          have hT1 : TokRow wc wp (TL l) false vp (0 + 1) vcp := Htr.out.more (((Chg.refl _ _).alloc _).alloc _) (by have hLL := HL.out; rw [tok_even (by omega)]; show _ = [_, _, _, _, _, _, _]; rw [show (0) / 2 = k by omega, TL, ← Hq.out]; simp [Hk0.out]) Hownp.out Hgp.out
          have HT1 := Lib.hid hT1
          clear hT1
          go_wp2_with fail
          go_roundw
          case rel => have hLL := HL.out; have hkk := Hk0.out; exact ⟨k + 1, vp, vcp, by omega, by go_num, by rw [show cnt (k + 1) = 0 + 1 by unfold cnt; omega], by rw [show cnt (k + 1) = 0 + 1 by unfold cnt; omega]; exact HT1.out⟩
          case measure => simp [intOf]; omega
        · go_wp2_with fail
          refine (text11 q htc wr).mono ?_
          rintro ey wy ⟨rfl, rfl⟩
          go_wp2_with (at_builtin; go_loud (refine wpList_append_fresh _ rfl (.tmp 80) (.tmp 82) 24 rfl wc.heap.size 40 i0 _ 7 40 Tryf.underlying24 hi hz0 hz1 hz2 rfl (by decide) vo (0) vc _ rfl ((Htr.out.own.alloc _).alloc _) (some ⟨wr.heap.size + 1, 0, none⟩) 1 1 [.pointer none, .string (txt q), .int .i32 0, .int .u32 0, .int .u16 0, .int .u8 29, .int .u8 1] rfl rfl (by simp) (fun a ha j u hu => cells_new (wr.alloc (.cells #[.pointer none, .string (txt q), .int .i32 0, .int .u32 0, .int .u16 0, .int .u8 29, .int .u8 1] 40)) #[.pointer none, .string (txt q), .int .i32 0, .int .u32 0, .int .u16 0, .int .u8 29, .int .u8 1] 40 a (by simpa using ha) j u hu) (by simp [Value.oneCell']) (by unfold maxLen; omega) (by omega) (by simp; omega) ?_; intro vp vcp wp hown1 hg1 hf1; have Hownp := Lib.hid hown1; have Hgp := Lib.hid hg1; clear hown1 hg1 hf1))
          have hT1 : TokRow wc wp (TL l) true vp (0 + 1) vcp := Htr.out.more (((Chg.refl _ _).alloc _).alloc _) (by have hLL := HL.out; rw [tok_even (by omega)]; show _ = [_, _, _, _, _, _, _]; rw [show (0) / 2 = k by omega, TL, ← Hq.out]; simp [Hk0.out]) Hownp.out Hgp.out
          have HT1 := Lib.hid hT1
          clear hT1
          go_wp2_with fail
          go_roundw
          case rel => have hLL := HL.out; have hkk := Hk0.out; exact ⟨k + 1, vp, vcp, by omega, by go_num, by rw [show cnt (k + 1) = 0 + 1 by unfold cnt; omega], by rw [show cnt (k + 1) = 0 + 1 by unfold cnt; omega]; exact HT1.out⟩
          case measure => simp [intOf]; omega
      · have e0 : ((k : Int) == 0) = false := beq_eq_false_iff_ne.2 (by omega)
        have e1 : (0 : Int) < (k : Int) := by omega
        have Hk0 := Lib.hid hk0
        clear hk0
        go_wp2_with (at_builtin; go_loud (refine wpList_append_fresh _ rfl (.tmp 64) (.tmp 66) 24 rfl wc.heap.size 40 i0 _ 7 40 Tryf.underlying24 hi hz0 hz1 hz2 rfl (by decide) vo (L) vc _ rfl (Htr.out.own.alloc _) (some ⟨wr.heap.size, 0, none⟩) 1 1 [.pointer none, .string ⟨#[44]⟩, .int .i32 0, .int .u32 0, .int .u16 0, .int .u8 10, .int .u8 2] rfl rfl (by simp) (fun a ha j u hu => cells_new wr #[.pointer none, .string ⟨#[44]⟩, .int .i32 0, .int .u32 0, .int .u16 0, .int .u8 10, .int .u8 2] 40 a (by simpa using ha) j u hu) (by simp [Value.oneCell']) (by unfold maxLen; omega) (by omega) (by simp; omega) ?_; intro vo1 vco wo hown1 hg1 hf1; have Howno := Lib.hid hown1; have Hgo := Lib.hid hg1; have hT0 : TokRow wc wo (TL l) lead vo1 (L + 1) vco := Htr.out.more ((Chg.refl _ _).alloc _) (by rw [tok_odd (by have := Hk0.out; have := HL.out; omega)]; rfl) hown1 hg1; have hcz := hT0.chg.cell Hcw.out (fun h => h); unfold byteAt at hcz; rw [← Hq.out] at hcz; have hso := hT0.chg.size; have HT0 := Lib.hid hT0; clear hown1 hg1 hf1 hT0))
        refine (text11 q htc wo).mono ?_
        rintro ey wy ⟨rfl, rfl⟩
        go_wp2_with (at_builtin; go_loud (refine wpList_append_fresh _ rfl (.tmp 80) (.tmp 82) 24 rfl wc.heap.size 40 i0 _ 7 40 Tryf.underlying24 hi hz0 hz1 hz2 rfl (by decide) vo1 (L + 1) vco _ rfl ((HT0.out.own.alloc _).alloc _) (some ⟨wo.heap.size + 1, 0, none⟩) 1 1 [.pointer none, .string (txt q), .int .i32 0, .int .u32 0, .int .u16 0, .int .u8 29, .int .u8 0] rfl rfl (by simp) (fun a ha j u hu => cells_new (wo.alloc (.cells #[.pointer none, .string (txt q), .int .i32 0, .int .u32 0, .int .u16 0, .int .u8 29, .int .u8 0] 40)) #[.pointer none, .string (txt q), .int .i32 0, .int .u32 0, .int .u16 0, .int .u8 29, .int .u8 0] 40 a (by simpa using ha) j u hu) (by simp [Value.oneCell']) (by unfold maxLen; omega) (by omega) (by simp; omega) ?_; intro vp vcp wp hown1 hg1 hf1; have Hownp := Lib.hid hown1; have Hgp := Lib.hid hg1; clear hown1 hg1 hf1))
        have hT1 : TokRow wc wp (TL l) lead vp (L + 1 + 1) vcp := HT0.out.more (((Chg.refl _ _).alloc _).alloc _) (by have hLL := HL.out; rw [tok_even (by omega)]; show _ = [_, _, _, _, _, _, _]; rw [show (L + 1) / 2 = k by omega, TL, ← Hq.out]; simp [Hk0.out]) Hownp.out Hgp.out
        have HT1 := Lib.hid hT1
        clear hT1
        go_wp2_with fail
        go_roundw
        case rel => have hLL := HL.out; have hkk := Hk0.out; exact ⟨k + 1, vp, vcp, by omega, by go_num, by rw [show cnt (k + 1) = L + 1 + 1 by unfold cnt; omega], by rw [show cnt (k + 1) = L + 1 + 1 by unfold cnt; omega]; exact HT1.out⟩
        case measure => simp [intOf]; omega
    · obtain rfl : k = n := by omega
      have hx1 : ¬ (k : Int) < (k : Int) := by omega
      obtain ⟨gt, rfl, hgt1, hgt2⟩ := htr.place (by rw [hL]; unfold cnt; omega)
      clear htr
      have hL2 : L = 2 * (k - 1) + 1 := by rw [hL]; unfold cnt; omega
      have HL := Lib.hid hL2
      clear hL hL2
      obtain ⟨mu, hmu⟩ : ∃ mu, mu = (!m && dec && decide (2 ≤ k - 1)) := ⟨_, rfl⟩
      have Hmu := Lib.hid hmu
      clear hmu
      go_wp2_with fail
      have hbd := text_bound l lead mu ind fac k L hf3 hf1 hq HL.out hn2 hi1
      refine (zprint7 gt (k - 1) L vc (TL l) lead m dec mu Hmu.out ind wr HL (fun w' hw' => Htr.out.list hw' (by omega)) (by omega) hi1 hi0 (Lib.hid fun i => plain_txt _) (Lib.hid fun i => Nat.le_trans (txt_size _) (by omega)) hbd).mono ?_
      rintro ez wz ⟨vz, cz, rfl, hrz⟩
      have Hrz := Lib.hid hrz
      have hsz := hrz.chg.size
      have Hbd := Lib.hid hbd
      clear hrz hbd
      go_upto_region 25 with fail
      go_cut [17] (fun c17 wx => c17 = .bool mu ∧ wx = wz)
      case first =>
        have hmu := Hmu.out
        cases m
        · cases dec
          · have hmu2 : mu = false := hmu
            clear hmu
            go_wp2_with fail
            go_meet
            case rel => exact ⟨by rw [hmu2], rfl⟩
          · by_cases h3 : 3 ≤ k
            · have hmu2 : mu = true := by rw [hmu]; exact decide_eq_true (by omega)
              have h3i : (3 : Int) ≤ (k : Int) := by omega
              clear hmu h3
              have Hmu2 := Lib.hid hmu2
              clear hmu2
              go_wp2_with fail
              go_meet
              case rel => exact ⟨by rw [Hmu2.out], rfl⟩
            · have hmu2 : mu = false := by rw [hmu]; exact decide_eq_false (by omega)
              have h3i : ¬ (3 : Int) ≤ (k : Int) := by omega
              clear hmu h3
              have Hmu2 := Lib.hid hmu2
              clear hmu2
              go_wp2_with fail
              go_meet
              case rel => exact ⟨by rw [Hmu2.out], rfl⟩
        · have hmu2 : mu = false := hmu
          clear hmu
          go_wp2_with fail
          go_meet
          case rel => exact ⟨by rw [hmu2], rfl⟩
      case rest =>
      obtain ⟨rfl, rfl⟩ := hcut
      rename World => w2
      obtain ⟨j0, hj, hj0, hj1, hj2⟩ := info_parts info5
      go_upto_if 103 with fail
      go_cut [18] (fun c18 wx => ∃ vs Ls cs, c18 = .slice vs Ls cs ∧ RowAt w2 wx vs Ls cs (sepOf mu ind))
      case first =>
        cases mu
        · go_wp2_with fail
          go_meet
          case rel => exact ⟨_, _, _, rfl, RowAt.lit w2 32 (by decide) _ rfl⟩
        · have Hr0 := Lib.hid ((RowAt.lit (w2.alloc (.cells #[.int .u8 32] 5)) 10 (by decide) (w2.heap.size + 1) (by simp)).wide ((Chg.refl Nowhere w2).alloc _))
          have hw4 : IntKind.i64.wrap (ind + 1) = ind + 1 := IntWalk.i64_in _ (by omega)
          go_wp2_with fail
          go_loopg [18, 20] ((ind + 1).toNat) (fun gk s i wr => ∃ j : Nat, ∃ vo L vc, gk = (ind + 1).toNat - j ∧ j ≤ (ind + 1).toNat ∧ i = .int .i64 j ∧ s = .slice vo L vc ∧ L = 1 + 2 * j ∧ RowAt w2 wr vo L vc (10 :: spaces j))
          case atStart => exact ⟨0, _, _, _, by omega, by omega, rfl, rfl, rfl, Hr0.out⟩
          case round =>
            obtain ⟨j, vo, Lj, vc, hgk, hj3, rfl, rfl, hLj, hr⟩ := hrel
            have Hr2 := Lib.hid hr
            have hsz2 := hr.chg.size
            have HLj := Lib.hid hLj
            have hLb : Lj ≤ 200000 := by omega
            have Hgk := Lib.hid hgk
            by_cases hlj : j < (ind + 1).toNat
            · have hx1 : (j : Int) < ind + 1 := by omega
              clear hr hLj hgk
              go_wp2_with (at_builtin; go_loud (refine wpList_append_fresh _ rfl (.tmp 113) (.tmp 114) 22 rfl w2.heap.size 5 j0 _ 1 1 Tryf.underlying22 hj hj0 hj1 hj2 rfl (by decide) vo Lj vc _ rfl (Hr2.out.own.alloc _) (some ⟨wr.heap.size, 0, none⟩) 2 2 (Lib.byteCells [32, 32]) rfl rfl (by simp) (newBytes wr [32, 32] _ (by simp)) (oneBytes _) (by unfold maxLen; omega) (by omega) (by simp; omega) ?_; intro vp vcp wp hown1 hg1 hf1; have Hr3 := Lib.hid (RowAt.more (new := [32, 32]) 2 rfl Hr2.out ((Chg.refl Nowhere wr).alloc _) hown1 hg1); clear hown1 hg1 hf1))
              go_roundg ((ind + 1).toNat - (j + 1))
              case measure => have := Hgk.out; omega
              case rel => exact ⟨j + 1, vp, Lj + 2, vcp, rfl, by omega, by go_num, rfl, by have := HLj.out; omega, by simpa only [spaces, List.append_assoc, List.cons_append] using Hr3.out⟩
            · have hx1 : ¬ (j : Int) < ind + 1 := by omega
              have hje : j = (ind + 1).toNat := by omega
              have Hje := Lib.hid hje
              clear hr hLj hgk hje
              go_wp2_with fail
              go_meet
              case rel => exact ⟨vo, Lj, vc, rfl, by have := Hr2.out; rw [Hje.out] at this; exact this⟩
      case rest =>
      obtain ⟨vs, Ls, cs, rfl, hrs⟩ := hcut
      rename World => w3
      have hls := hrs.len
      have hsm := sep_mul mu ind fac k hf3 hf1 hq
      rw [← hls] at hsm
      have hsl := sepOf_length mu ind hi1
      rw [← hls] at hsl
      have hsp : 0 ≤ (Ls : Int) * (k : Int) := Int.mul_nonneg (by omega) (by omega)
      have hw5 : IntKind.i64.wrap ((Ls : Int) * (k : Int)) = (Ls : Int) * (k : Int) := IntWalk.i64_in _ (by omega)
      have Hls := Lib.hid hls
      have Hrs := Lib.hid hrs
      have hs3 := hrs.chg.size
      clear hls hrs
      have hmk := make22 (8 * (k : Int) + (Ls : Int) * (k : Int) + 8) (by omega) (by omega) w3
      obtain ⟨cap, hcap⟩ : ∃ cap, cap = (8 * (k : Int) + (Ls : Int) * (k : Int) + 8).toNat := ⟨_, rfl⟩
      rw [← hcap] at hmk
      have Hr4 := Lib.hid (RowAt.start w3 cap (by rw [hcap]; unfold maxLen; omega))
      clear hcap
      go_upto_if 127 with fail
      clear hmk
      go_cut [21] (fun c21 wx => ∃ vt Lt ct, c21 = .slice vt Lt ct ∧ RowAt w3 wx vt Lt ct (if lead = true then sepOf mu ind else []))
      case first =>
        cases lead
        · go_wp2_with fail
          go_meet
          case rel => exact ⟨_, _, _, rfl, by simpa using Hr4.out⟩
        · have Hnil := Lib.hid (fun h => Hrs.out.nil h)
          have Hsrc := Lib.hid (Hrs.out.src ((Chg.refl Nowhere w3).alloc (.cells (madeCells #[.int .u8 0] cap) 5)))
          go_wp2_with (at_builtin; go_loud (refine wpList_append_fresh _ rfl (.tmp 128) (.tmp 129) 22 rfl w3.heap.size 5 j0 _ 1 1 Tryf.underlying22 hj hj0 hj1 hj2 rfl (by decide) _ 0 cap _ rfl Hr4.out.own vs Ls cs (Lib.byteCells (sepOf mu ind)) rfl (by rw [Lib.byteCells, List.length_map, Nat.mul_one]; exact Hls.out.symm) Hnil.out Hsrc.out (oneBytes _) (by unfold maxLen; omega) (by omega) (by simp) ?_; intro vp vcp wp hown1 hg1 hf1; have Hr5 := Lib.hid (RowAt.more (new := sepOf mu ind) Ls Hls.out.symm Hr4.out (Chg.refl Nowhere _) hown1 hg1); clear hown1 hg1 hf1))
          go_meet
          case rel => exact ⟨_, _, _, rfl, by simpa using Hr5.out⟩
      case rest =>
      obtain ⟨vt, Lt, ct, rfl, hrt⟩ := hcut
      have Hrt := Lib.hid hrt
      clear hrt
      go_wp2_with fail
      go_loopg [21, 22] k (fun gk s i wr => ∃ j : Nat, ∃ vo L vc, gk = k - j ∧ j ≤ k ∧ i = .int .i64 j ∧ s = .slice vo L vc ∧ RowAt w3 wr vo L vc (wantAt (sepOf mu ind) (TL l) lead j))
      case atStart => exact ⟨0, _, _, _, by omega, by omega, rfl, rfl, Hrt.out⟩
      case round =>
        obtain ⟨j, vo, Lj, vc, hgk, hj3, rfl, rfl, hr⟩ := hrel
        have Hr6 := Lib.hid hr
        have hsz6 := hr.chg.size
        have hLj := hr.len
        have hwl := want_len mu ind hi1 (TL l) lead HL.out Hbd.out hj3
        have hLb : Lj ≤ 100000000 := by omega
        have HLj := Lib.hid hLj
        have Hgk := Lib.hid hgk
        clear hr hLj hgk hwl
        by_cases hlj : j < k
        · rcases HR.out with h0 | ⟨g, o, rfl, hR1⟩
          · omega
          have hchw := ((Htr.out.chg.trans Hrz.out.chg (fun _ _ h => h)).trans Hrs.out.chg (fun _ _ h => h)).trans Hr6.out.chg (fun _ _ h => h)
          have hc := hchw.cell (hR1 j hlj) (fun h => h)
          have Hcw := Lib.hid (((Htr.out.chg.trans Hrz.out.chg (fun _ _ h => h)).trans Hrs.out.chg (fun _ _ h => h)).cell (hR1 j hlj) (fun h => h))
          unfold byteAt at hc
          have htc := byteOf_lt l j
          obtain ⟨q, hq2⟩ : ∃ q, q = byteOf l j := ⟨_, rfl⟩
          rw [← hq2] at hc htc
          have Hq := Lib.hid hq2
          clear hq2 hR1 hchw
          have htx := txt_size q
          have hx0 : (0 : Int) ≤ (j : Int) := by omega
          have hx1 : (j : Int) < (k : Int) := by omega
          by_cases hj0k : j = 0
          · have e1 : ¬ (0 : Int) < (j : Int) := by omega
            have Hj := Lib.hid hj0k
            clear hj0k
            go_wp2_with fail
            refine (text11 q htc wr).mono ?_
            rintro ey wy ⟨rfl, rfl⟩
            go_wp2_with (at_builtin; go_loud (refine wpList_append_str_fresh _ rfl (.tmp 145) (.tmp 150) 22 9 rfl w3.heap.size 5 j0 Tryf.underlying22 Tryf.underlying9 hj hj0 hj1 hj2 vo (Lj) vc _ rfl Hr6.out.own (txt q) rfl (by unfold maxLen; omega) (by omega) (by omega) ?_; intro vp vcp wp hown1 hg1 hf1; have Hr9 := Lib.hid (RowAt.more (new := (txt q).data.toList) (txt q).size (by rw [Array.length_toList]; rfl) Hr6.out (Chg.refl Nowhere _) (by simpa [Lib.byteCells, Lib.strCells] using hown1) hg1); clear hown1 hg1 hf1))
            go_roundg (k - (j + 1))
            case measure => have := Hgk.out; omega
            case rel => exact ⟨j + 1, vp, _, vcp, rfl, by omega, by go_num, rfl, by have hh := Hr9.out; have hqq := Hq.out; have hjj := Hj.out; subst hjj; rw [want_zero, TL, ← hqq]; exact hh⟩
          · have e1 : (0 : Int) < (j : Int) := by omega
            have Hj := Lib.hid hj0k
            clear hj0k
            have Hnil := Lib.hid (fun h => Hrs.out.nil h)
            go_wp2_with (at_builtin; first | ((refine wpList_append_fresh _ rfl (.tmp 139) (.tmp 140) 22 rfl w3.heap.size 5 j0 _ 1 1 Tryf.underlying22 hj hj0 hj1 hj2 rfl (by decide) vo Lj vc _ rfl (Hr6.out.own.alloc _) (some ⟨wr.heap.size, 0, none⟩) 1 1 (Lib.byteCells [44]) rfl rfl (by simp) (newBytes wr [44] _ (by simp)) (oneBytes _) (by unfold maxLen; omega) (by omega) (by simp; omega) ?_; intro vp vcp wp hown1 hg1 hf1; have Hr7 := Lib.hid (RowAt.more (new := [44]) 1 rfl Hr6.out ((Chg.refl Nowhere wr).alloc _) hown1 hg1); have hs7 := Hr7.out.chg.size; have Hsrc := Lib.hid (Hrs.out.src Hr7.out.chg); clear hown1 hg1 hf1)) | ((refine wpList_append_fresh _ rfl (.tmp 142) (.tmp 143) 22 rfl w3.heap.size 5 j0 _ 1 1 Tryf.underlying22 hj hj0 hj1 hj2 rfl (by decide) vp (Lj + 1) vcp _ rfl Hr7.out.own vs Ls cs (Lib.byteCells (sepOf mu ind)) rfl (by rw [Lib.byteCells, List.length_map, Nat.mul_one]; exact Hls.out.symm) Hnil.out Hsrc.out (oneBytes _) (by unfold maxLen; omega) (by omega) (by omega) ?_; intro vq vcq wq hown1 hg1 hf1; have Hr8 := Lib.hid (RowAt.more (new := sepOf mu ind) Ls Hls.out.symm Hr7.out (Chg.refl Nowhere _) hown1 hg1); have hs8 := Hr8.out.chg.size; have hc8 := Hr8.out.chg.cell Hcw.out (fun h => h); unfold byteAt at hc8; rw [← Hq.out] at hc8; clear hown1 hg1 hf1)))
            refine (text11 q htc wq).mono ?_
            rintro ey wy ⟨rfl, rfl⟩
            go_wp2_with (at_builtin; go_loud (refine wpList_append_str_fresh _ rfl (.tmp 145) (.tmp 150) 22 9 rfl w3.heap.size 5 j0 Tryf.underlying22 Tryf.underlying9 hj hj0 hj1 hj2 vq (Lj + 1 + Ls) vcq _ rfl Hr8.out.own (txt q) rfl (by unfold maxLen; omega) (by omega) (by omega) ?_; intro vp vcp wp hown1 hg1 hf1; have Hr9 := Lib.hid (RowAt.more (new := (txt q).data.toList) (txt q).size (by rw [Array.length_toList]; rfl) Hr8.out (Chg.refl Nowhere _) (by simpa [Lib.byteCells, Lib.strCells] using hown1) hg1); clear hown1 hg1 hf1))
            go_roundg (k - (j + 1))
            case measure => have := Hgk.out; omega
            case rel => exact ⟨j + 1, vp, _, vcp, rfl, by omega, by go_num, rfl, by have hh := Hr9.out; have hqq := Hq.out; rw [want_step _ _ _ Hj.out, TL, ← hqq]; exact hh⟩
        · obtain rfl : j = k := by omega
          have hx1 : ¬ (j : Int) < (j : Int) := by omega
          have hend := want_end (sepOf mu ind) (TL l) lead hz HL.out
          have hr7 := Hr6.out
          rw [hend] at hr7
          have hl7 := hr7.len
          have hbb := Hbd.out L (Nat.le_refl _)
          obtain ⟨X, hX⟩ : ∃ X, X = textTo (sepOf mu ind) (TL l) lead L := ⟨_, rfl⟩
          rw [← hX] at hr7 hl7 hbb
          have hrz := Hrz.out
          rw [← hX] at hrz ⊢
          subst hl7
          have hfin := ((Htr.out.chg.trans hrz.chg (fun _ _ h => h)).trans Hrs.out.chg (fun _ _ h => h)).trans hr7.chg (fun _ _ h => h)
          have Hfin := Lib.hid hfin
          have Hk1 := Lib.hid ((reads_own hrz.own).kept (Hrs.out.chg.trans hr7.chg (fun _ _ h => h)) (fun _ _ _ h => h))
          have Hk2 := Lib.hid (reads_own hr7.own)
          have HX := Lib.hid hX
          clear hfin hr7 hrz hend hX
          go_wp2_with fail
          refine (equal9 vz vo cz vc X wr (by omega) Hk1.out Hk2.out).mono ?_
          rintro ex w10 ⟨rfl, q, rfl⟩
          go_wp2_with fail
          go_ret
          exact ⟨rfl, Hfin.out.drewN q⟩
end Go.Proofs.YtbbanpfkicdnmaaFmt
