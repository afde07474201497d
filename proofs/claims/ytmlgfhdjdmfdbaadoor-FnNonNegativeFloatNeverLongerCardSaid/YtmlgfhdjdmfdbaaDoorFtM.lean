/-
  Proved: contract of FormatFloat at the shortest 'g' form for 64-bit floats other than the two zeros: the text is one function of the bits. No condition but the tables' cells; no statement of the seat stands here.
-/
import Derived.Test.YtmlgfhdjdmfdbaaDoorFtL
import Derived.Test.YtmlgfhdjdmfdbaaDoorFtApp
namespace Go.Proofs.YtmlgfhdjdmfdbaaDoor
open Go.RowKit Go.ChangeAt Go.Sort
set_option linter.unusedSimpArgs false
set_option linter.unusedVariables false
set_option maxRecDepth 100000
def Row0 (w0 w : World) (vo : Option Addr) (L vc : Nat) (out : List UInt8) : Prop := L = out.length ∧ w.ownsRow w0.heap.size 5 1 (.slice vo L vc) L (Lib.byteCells out) ∧ Chg Nowhere w0 w
theorem strCells_bytes (s : ByteArray) : Lib.strCells s = Lib.byteCells s.data.toList := by simp [Lib.strCells, Lib.byteCells]
theorem ftoaOdd (w0 w : World) (vo : Option Addr) (L vc b M : Nat) (neg : Bool) (txt : ByteArray) (out : List UInt8)
    (hneg : ((b : Int) / 9223372036854775808 != 0) = neg) (hE : bits .and .i64 (wrap64 ((b : Int) / 4503599627370496)) 2047 = 2047) (hM : bits .and .u64 (b : Int) 4503599627370495 = (M : Int))
    (htxt : (((M : Int) != 0) = true ∧ txt = ⟨#[78, 97, 78]⟩) ∨ (((M : Int) != 0) = false ∧ neg = true ∧ txt = ⟨#[45, 73, 110, 102]⟩) ∨ (((M : Int) != 0) = false ∧ neg = false ∧ txt = ⟨#[43, 73, 110, 102]⟩))
    (hL : L ≤ 1000) (hR : Row0 w0 w vo L vc out) :
    Calls Tryd.prog 18 #[.slice vo L vc, .float .f64 b, .int .u8 103, .int .i64 (-1)] w (FmtOut w0 (out ++ txt.data.toList)) := by
  have hfb := bits64 b
  have HR := Lib.hid hR
  have hsz := hR.2.2.size
  clear hR
  obtain ⟨i, hi, hz0, hz1, hz2⟩ := info_parts5
  have fin : ∀ (vo' : Option Addr) (vc' : Nat) (w' : World), w'.ownsRow w0.heap.size 5 1 (.slice vo' (L + txt.size) vc') (L + txt.size) (Lib.byteCells out ++ Lib.strCells txt) → Chg (InRow vo) w.drew w' → FmtOut w0 (out ++ txt.data.toList) (.returned (.slice vo' (L + txt.size) vc')) w' := by
    intro vo' vc' w' h1 h2
    refine ⟨vo', _, vc', rfl, by rw [List.length_append, ← HR.out.1]; rfl, ?_, (HR.out.2.2.drew).trans h2 fun k hk hs => absurd (inRow_own HR.out.2.1 k hs).1 (by omega)⟩
    rw [strCells_bytes] at h1
    rw [show Lib.byteCells (out ++ txt.data.toList) = Lib.byteCells out ++ Lib.byteCells txt.data.toList by simp [Lib.byteCells]]
    exact h1
  have FIN := Lib.hid fin
  clear fin
  rcases htxt with ⟨h1, rfl⟩ | ⟨h1, h2, rfl⟩ | ⟨h1, h2, rfl⟩
  · go_enter Tryd.func18, Tryd.ntmps18
    go_wp2_with fail
    go_region
    go_wp2_with (at_builtin; go_loud (refine wpList_append_str_fresh _ rfl (.tmp 70) (.const (.string ⟨#[78, 97, 78]⟩)) 26 9 rfl w0.heap.size 5 i Tryd.underlying26 Tryd.underlying9 hi hz0 hz1 hz2 vo L vc _ rfl HR.out.2.1 ⟨#[78, 97, 78]⟩ rfl (by show L + 3 ≤ _; unfold maxLen; omega) (by show L + 3 ≤ _; omega) hsz ?_; intro v1 c1 w1 h3 h4 h5; have H3 := Lib.hid (FIN.out v1 c1 w1 h3 h4); clear h3 h4 h5))
    go_ret
    exact H3.out
  · subst h2
    go_enter Tryd.func18, Tryd.ntmps18
    go_wp2_with fail
    go_region
    go_wp2_with (at_builtin; go_loud (refine wpList_append_str_fresh _ rfl (.tmp 73) (.const (.string ⟨#[45, 73, 110, 102]⟩)) 26 9 rfl w0.heap.size 5 i Tryd.underlying26 Tryd.underlying9 hi hz0 hz1 hz2 vo L vc _ rfl HR.out.2.1 ⟨#[45, 73, 110, 102]⟩ rfl (by show L + 4 ≤ _; unfold maxLen; omega) (by show L + 4 ≤ _; omega) hsz ?_; intro v1 c1 w1 h3 h4 h5; have H3 := Lib.hid (FIN.out v1 c1 w1 h3 h4); clear h3 h4 h5))
    go_ret
    exact H3.out
  · subst h2
    go_enter Tryd.func18, Tryd.ntmps18
    go_wp2_with fail
    go_region
    go_wp2_with (at_builtin; go_loud (refine wpList_append_str_fresh _ rfl (.tmp 75) (.const (.string ⟨#[43, 73, 110, 102]⟩)) 26 9 rfl w0.heap.size 5 i Tryd.underlying26 Tryd.underlying9 hi hz0 hz1 hz2 vo L vc _ rfl HR.out.2.1 ⟨#[43, 73, 110, 102]⟩ rfl (by show L + 4 ≤ _; unfold maxLen; omega) (by show L + 4 ≤ _; omega) hsz ?_; intro v1 c1 w1 h3 h4 h5; have H3 := Lib.hid (FIN.out v1 c1 w1 h3 h4); clear h3 h4 h5))
    go_ret
    exact H3.out
def StrOut (txt : ByteArray) (w : World) (e : Ending) (w' : World) : Prop := e = .returned (.string txt) ∧ Chg Nowhere w w'
/-- What lies between ftoa64 and its caller. -/
theorem ff16 (b : Nat) (txt : List UInt8) (w : World) (htx : 1 ≤ txt.length) (h : ∀ w1 vo vc, Row0 w w1 vo 0 vc [] → Calls Tryd.prog 18 #[.slice vo 0 vc, .float .f64 b, .int .u8 103, .int .i64 (-1)] w1 (FmtOut w txt)) :
    Calls Tryd.prog 7 #[.float .f64 b, .int .u8 103, .int .i64 (-1), .int .i64 64] w (StrOut ⟨⟨txt⟩⟩ w) := by
  obtain ⟨i0, hi, hz0, hz1, hz2⟩ := info_parts5
  have hmk : ∀ w, (Instr.makeSlice 26 (.int .i64 0) (.int .i64 (max 3 24))).run Tryd.prog w = .ok (.slice (some ⟨w.heap.size, 0, none⟩) 0 24) (w.alloc (.cells (madeCells #[.int .u8 0] 24) 5)) := fun w => by
    have h := run_make (P := Tryd.prog) w 26 5 i0 _ Tryd.underlying26 hi hz0 .i64 .i64 0 24 (by omega) (by omega) (by rw [hz2]; omega) (by omega)
    rw [hz1] at h
    rw [show (max (3 : Int) 24) = ((24 : Nat) : Int) by rfl]
    simpa [Value.cells] using h
  have hrow : Row0 w (w.alloc (.cells (madeCells #[.int .u8 0] 24) 5)) (some ⟨w.heap.size, 0, none⟩) 0 24 [] :=
    ⟨rfl, World.ownsRow_made w _ 24 (Nat.le_refl _) (by unfold maxLen; omega) (by rw [size_madeCells]), (Chg.refl _ w).alloc _⟩
  have HC := Lib.hid (h _ _ _ hrow)
  clear h hrow
  generalize madeCells #[.int .u8 0] 24 = mc at hmk HC
  go_enter Tryd.func7, Tryd.ntmps7
  go_wp2_with (go_at_call 9; go_in)
  refine HC.out.mono ?_
  rintro e w' ⟨v1, L1, c1, rfl, hr⟩
  obtain ⟨hl, hown, hchg⟩ := hr
  subst hl
  have hg : ∃ g, v1 = some ⟨g, 0, none⟩ := by
    rcases ownsRow_addr hown with ⟨h1, h2, _⟩ | ⟨g, h1, _⟩
    · omega
    · exact ⟨g, h1⟩
  obtain ⟨g, hv⟩ := hg
  rw [hv] at hown ⊢
  have hcv : (convert 26 9 (.slice (some ⟨g, 0, none⟩) txt.length c1)).run Tryd.prog w' = .ok (.string ⟨txt.toArray⟩) w' :=
    run_convert_bytes_back w' 26 9 5 ⟨g, 0, none⟩ c1 txt Tryd.underlying26 Tryd.underlying5 Tryd.underlying9 (fun j hj => hown.cells (g := g) rfl j _ (by simp [Lib.byteCells, hj]))
  have HCH := Lib.hid hchg
  clear hown hchg hv
  go_wp2_with fail
  go_ret
  exact ⟨rfl, HCH.out⟩
end Go.Proofs.YtmlgfhdjdmfdbaaDoor
