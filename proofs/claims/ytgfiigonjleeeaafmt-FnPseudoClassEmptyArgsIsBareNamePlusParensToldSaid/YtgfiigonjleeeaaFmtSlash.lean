/-
  Proved: contract of the css printer's printWithEscape with a backslash. No statement of the seat stands here.
-/
import Derived.Test.YtgfiigonjleeeaaFmtPut
namespace Go.Proofs.YtgfiigonjleeeaaFmt
open Go.RowKit Go.ChangeAt
set_option linter.unusedSimpArgs false
set_option linter.unusedVariables false
set_option maxRecDepth 100000
theorem byte_new (w : World) (v : Value) (k : Nat) (hk : k = w.heap.size) : ∀ x, some (⟨k, 0, none⟩ : Addr) = some x → ∀ j u, [v][j]? = some u → (w.alloc (.cells #[v] 5)).cell? (x.add j) = some u := by
  subst hk
  intro x hx
  exact cells_new w #[v] 5 x hx
/-- The six tests of a hexadecimal digit. -/
structure HexCmp (c : Nat) (a1 a2 a3 a4 a5 a6 : Prop) : Prop where
  h1 : ((48 : Int) ≤ (c : Int)) = a1
  h2 : ((c : Int) ≤ 57) = a2
  h3 : ((97 : Int) ≤ (c : Int)) = a3
  h4 : ((c : Int) ≤ 102) = a4
  h5 : ((65 : Int) ≤ (c : Int)) = a5
  h6 : ((c : Int) ≤ 70) = a6
theorem notHex_cases (c : Nat) (h : isHex c = false) : HexCmp c False True False True False True ∨ HexCmp c True False False True False True ∨ HexCmp c True False False True True False ∨ HexCmp c True False True False True False := by
  have h' : ¬ ((48 ≤ c ∧ c ≤ 57) ∨ (97 ≤ c ∧ c ≤ 102) ∨ (65 ≤ c ∧ c ≤ 70)) := of_decide_eq_false h
  have : c < 48 ∨ (58 ≤ c ∧ c < 65) ∨ (71 ≤ c ∧ c < 97) ∨ 103 ≤ c := by omega
  rcases this with h | h | h | h
  · exact .inl ⟨eq_false (by omega), eq_true (by omega), eq_false (by omega), eq_true (by omega), eq_false (by omega), eq_true (by omega)⟩
  · exact .inr (.inl ⟨eq_true (by omega), eq_false (by omega), eq_false (by omega), eq_true (by omega), eq_false (by omega), eq_true (by omega)⟩)
  · exact .inr (.inr (.inl ⟨eq_true (by omega), eq_false (by omega), eq_false (by omega), eq_true (by omega), eq_true (by omega), eq_false (by omega)⟩))
  · exact .inr (.inr (.inr ⟨eq_true (by omega), eq_false (by omega), eq_true (by omega), eq_false (by omega), eq_true (by omega), eq_false (by omega)⟩))
theorem hex_cases (c : Nat) (h : isHex c = true) : HexCmp c True True False True False True ∨ HexCmp c True False True True True False ∨ HexCmp c True False False True True True := by
  have h' : ((48 ≤ c ∧ c ≤ 57) ∨ (97 ≤ c ∧ c ≤ 102) ∨ (65 ≤ c ∧ c ≤ 70)) := of_decide_eq_true h
  rcases h' with h | h | h
  · exact .inl ⟨eq_true (by omega), eq_true (by omega), eq_false (by omega), eq_true (by omega), eq_false (by omega), eq_true (by omega)⟩
  · exact .inr (.inl ⟨eq_true (by omega), eq_false (by omega), eq_true (by omega), eq_true (by omega), eq_true (by omega), eq_false (by omega)⟩)
  · exact .inr (.inr ⟨eq_true (by omega), eq_false (by omega), eq_false (by omega), eq_true (by omega), eq_true (by omega), eq_true (by omega)⟩)
set_option maxHeartbeats 8000000 in
theorem put_slash (B b c : Nat) (m a : Bool) (vo : Option Addr) (out : List UInt8) (rem : ByteArray) (w : World) (hc : c ≤ 1114111) (hx : isHex c = false) (h : Pr B b m a vo out w) (ho : out.length ≤ 140000000000) :
    Calls Tryf.prog 27 #[.pointer (some ⟨b, 0, none⟩), .int .i32 c, .int .u8 1, .string rem, .bool false] w (Wrt B b m a vo (out ++ (92 :: Lib.encodeRune (c : Int))) w) := by
  obtain ⟨i0, hi, hz0, hz1, hz2⟩ := info_parts info5
  have hn4 := (encodeRune_len (c : Int)).2
  have hbs := h.lt_size
  have hadr := h.addr
  have hp1 : Pr B b m a vo out (w.alloc (.cells four 117)) := h.wrote ((Chg.refl Nowhere w).alloc _)
  obtain ⟨vc, hblk, hown⟩ := h.row
  obtain ⟨L, hL⟩ : ∃ L, L = out.length := ⟨_, rfl⟩
  rw [← hL] at hblk hown ho
  have HL := Lib.hid hL
  clear hL
  have hc15 := cell_of_heap hblk 15
  simp only [pc, List.getElem?_toArray, List.getElem?_cons_succ, List.getElem?_cons_zero] at hc15
  have hle := h.le
  have hwb : w.heap.size + 1 = (w.alloc (.cells four 117)).heap.size := by simp
  have Hadr := Lib.hid hadr
  have Hwb := Lib.hid hwb
  have Hp1 := Lib.hid hp1
  have Hblk := Lib.hid (heap_alloc_keep hblk (.cells four 117)); have Hown : Hid ((w.alloc (.cells four 117)).ownsRow B 5 1 (Value.slice vo L vc) L (Lib.byteCells out)) := Lib.hid (hown.alloc _)
  clear hblk hown hp1 hadr h hwb
  have hcs := notHex_cases c hx
  clear hx
  have hn0 : (0 : Int) ≤ ((Lib.encodeRune (c : Int)).length : Int) := by omega
  have hn1 : ((Lib.encodeRune (c : Int)).length : Int) ≤ 4 := by omega
  rcases hcs with ⟨h1, h2, h3, h4, h5, h6⟩ | ⟨h1, h2, h3, h4, h5, h6⟩ | ⟨h1, h2, h3, h4, h5, h6⟩ | ⟨h1, h2, h3, h4, h5, h6⟩
  all_goals
    go_enter Tryf.func27, Tryf.ntmps27
    go_wp2_with (at_builtin; go_loud (refine wpList_append_fresh _ rfl (.tmp 63) (.tmp 64) 28 rfl B 5 i0 _ 1 1 Tryf.underlying28 hi hz0 hz1 hz2 rfl (by decide) vo L vc _ rfl (Hown.out.alloc _) (some ⟨w.heap.size + 1, 0, none⟩) 1 1 [.int .u8 92] rfl rfl (by simp) (byte_new _ _ _ Hwb.out) (by intro u hu; simp at hu; subst hu; rfl) (by unfold maxLen; omega) (by omega) (by simp; omega) ?_; intro vb vcb wb hown1 hg1 hf1; have hb1 := hg1.heap (heap_alloc_keep Hblk.out _) Hp1.out.ne; have cb := cell_of_heap hb1 15; have fb := frozen_of_heap hb1 15; have sb := heap_lt hb1; simp only [pc, List.getElem?_toArray, List.getElem?_cons_succ, List.getElem?_cons_zero] at cb; have Hb1 := Lib.hid hb1; have Hown1 := Lib.hid hown1; have Hg1 := Lib.hid hg1; have Hf1 := Lib.hid hf1; clear hb1 hown1 hg1 hf1))
    obtain ⟨hp, hw⟩ := list_mk (t := [92]) HL.out rfl Hp1.out Hblk.out (((Chg.refl _ _).alloc _).trans Hg1.out (fun _ _ h => h)) Hown1.out (Hf1.out.imp id fun h => ⟨_, h, by simp⟩)
    generalize hww : World.setCell wb _ _ = w2 at hp hw ⊢
    have hfour := hw.heap (k := w.heap.size) (by omega) (fun hh => by have := (Hadr.out _ hh).2; omega) (heap_alloc_new w (.cells four 117))
    refine (enc44 w.heap.size c hc w2 117 hfour).mono ?_
    rintro ex w3 ⟨rfl, hch, hcl⟩
    have hsb := hp.lt_size
    have hp3 : Pr B b m a vb (out ++ [92]) w3 := hp.kept hch (by omega) (fun k hk hs => by
      subst hs
      exact (hw.out (fun hh => by have := (Hadr.out _ hh).2; omega) (by simp)) hk)
    have hw2 : Wrote b vo vb w w2 := ((Wrote.refl b vo w).alloc (.cells four 117)).trans hw
    have hw3 : Wrote b vo vb w w3 := ⟨hw2.chg.trans hch (fun k hk hs => by omega), hw2.place⟩
    have hs3 : w.heap.size < w3.heap.size := by have := hch.size; have := heap_lt hfour; omega
    clear hww hw hw2 hfour hp Hb1 Hown1 Hg1 Hf1 cb fb sb hch hsb
    have Hw3 := Lib.hid hw3
    have Hcl := Lib.hid hcl
    clear hw3 hcl
    obtain ⟨vc3, hblk, hown⟩ := hp3.row
    obtain ⟨L3, hL3⟩ : ∃ L3, L3 = (out ++ [92]).length := ⟨_, rfl⟩
    rw [← hL3] at hblk hown
    have ho3 : L3 ≤ 140000000001 := by rw [hL3, List.length_append, ← HL.out]; simpa using ho
    have HL3 := Lib.hid hL3
    clear hL3
    have hc15 := cell_of_heap hblk 15
    simp only [pc, List.getElem?_toArray, List.getElem?_cons_succ, List.getElem?_cons_zero] at hc15
    have hle3 := hp3.le
    have Hp3 := Lib.hid hp3
    have Hblk3 := Lib.hid hblk; have Hown3 := Lib.hid hown
    have hszb := heap_lt hblk
    clear hblk hown hp3
    go_wp2_with fail
    go_region_law (go_loud (refine step_append_fresh _ rfl (.tmp 75) (.tmp 77) 28 rfl B 5 i0 _ 1 1 Tryf.underlying28 hi hz0 hz1 hz2 rfl (by decide) vb L3 vc3 _ (by simp [Act.eval, Act.put]) (((Chg.refl Nowhere w3).drew).owns Hown3.out fun _ _ h => h) (some ⟨w.heap.size, 0, none⟩) (Lib.encodeRune (c : Int)).length 4 (Lib.byteCells (Lib.encodeRune (c : Int))) (by simp [Act.eval, Act.put]) (by simp [Lib.byteCells]) (by simp) (fun x hx => by injection hx with hx; subst hx; exact Hcl.out) (oneAll_bytes _) (by unfold maxLen; omega) (by omega) (show B ≤ w3.drew.heap.size from Hp3.out.le) ?_; intro vb4 vcb4 wb4 hown1 hg1 hf1; have hb1 := hg1.heap (show w3.drew.heap[b]? = _ from Hblk3.out) Hp3.out.ne; have cb := cell_of_heap hb1 15; have fb := frozen_of_heap hb1 15; simp only [pc, List.getElem?_toArray, List.getElem?_cons_succ, List.getElem?_cons_zero] at cb; have Hb1 := Lib.hid hb1; have Hown1 := Lib.hid hown1; have Hg1 := Lib.hid hg1; have Hf1 := Lib.hid hf1; clear hb1 hown1 hg1 hf1))
    all_goals
      obtain ⟨hp, hw⟩ := list_mk HL3.out rfl Hp3.out Hblk3.out (((Chg.refl _ _).drew).trans Hg1.out (fun _ _ h => h)) Hown1.out (Hf1.out.imp id fun h => ⟨_, h, Nat.le_refl _⟩)
      rw [List.append_assoc] at hp
      have Hp4 := Lib.hid hp
      have Hw4 := Lib.hid (Hw3.out.trans hw)
      clear hp hw
      go_wp2_with fail
      go_end0
      exact ⟨rfl, _, Hp4.out, Hw4.out⟩
end Go.Proofs.YtgfiigonjleeeaaFmt
