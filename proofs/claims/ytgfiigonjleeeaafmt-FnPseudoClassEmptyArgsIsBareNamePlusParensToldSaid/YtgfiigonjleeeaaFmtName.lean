/-
  Proved: contract of the css printer's printIdent at every string of bytes (normal; whitespace may be discarded); of printPseudoClassSelector without arguments and with empty ones, at every name. No statement of the seat stands here.
-/
import Derived.Test.YtgfiigonjleeeaaFmtSlowB
namespace Go.Proofs.YtgfiigonjleeeaaFmt
open Go.RowKit Go.ChangeAt
open Go.Extern.Stop Go.Stop Go.Extern
set_option linter.unusedSimpArgs false
set_option linter.unusedVariables false
set_option maxRecDepth 100000
set_option maxHeartbeats 4000000 in
theorem ident_plain (B b : Nat) (m a : Bool) (vo : Option Addr) (out : List UInt8) (t : ByteArray) (w : World) (hw : wouldB t = true) (hp : plainAll t) (hT : Lib.Utf8Tabs 1 2 w) (h : Pr B b m a vo out w) (ho : out.length ≤ 140000000000) (ht : t.size ≤ 140000000) :
    Calls Tryf.prog 22 #[.pointer (some ⟨b, 0, none⟩), .string t, .int .u8 0, .int .u8 1] w (Wrt B b m a vo (out ++ t.data.toList) w) := by
  obtain ⟨i0, hi, hz0, hz1, hz2⟩ := info_parts info5
  have hcall := would_any t w hT
  rw [hw] at hcall
  clear hw hT
  have Hp0 := Lib.hid h
  clear h
  have Hpl := Lib.hid hp
  clear hp
  go_enter Tryf.func22, Tryf.ntmps22
  go_wp2_with fail
  refine hcall.mono ?_
  rintro ex w0 ⟨rfl, hc⟩
  have h := Hp0.out.wrote hc
  have hW : Wrote b vo vo w w0 := ⟨hc.mono (fun _ _ h => h.elim), .inl rfl⟩
  have HW := Lib.hid hW
  obtain ⟨vc, hblk, hown⟩ := h.row
  have hle := h.le
  have hc := cell_of_heap hblk 15
  simp [pc] at hc
  have Hp := Lib.hid h
  have Hblk := Lib.hid hblk
  have Hown := Lib.hid hown
  have hsz := heap_lt hblk
  clear h hblk hown hcall hW
  go_wp2_with fail
  refine wp_scope_straight ?_
  go_wp2_with fail
  go_loop [11] (fun i => ∃ k : Nat, k ≤ t.size ∧ i = .int .i64 k) (fun i => t.size - (intOf i).toNat)
  case atStart => exact ⟨0, by omega, rfl⟩
  case round =>
    obtain ⟨k, hk, rfl⟩ := hrel
    by_cases hlt : k < t.size
    · have hb := bt_eq t k hlt
      obtain ⟨hb1, hn⟩ := Hpl.out k hlt
      have hcont := cont_any (bt t k) w0
      rw [hn] at hcont
      clear hn
      have hx1 : ¬ (128 : Int) ≤ (bt t k : Int) := by omega
      have hx2 : (k : Int) < (t.size : Int) := by omega
      have hx3 : (0 : Int) ≤ (k : Int) := by omega
      have hw : IntKind.i32.wrap (bt t k : Int) = (bt t k : Int) := by rw [IntKind.wrap_i32]; omega
      go_wp2_with fail
      refine hcont.mono ?_
      rintro ex w1 ⟨rfl, rfl⟩
      go_wp2_with fail
      go_round
      case rel => exact ⟨k + 1, by omega, by go_num⟩
      case measure => simp [intOf]; omega
    · obtain rfl : k = t.size := by omega
      go_wp2_with (at_builtin; go_loud (refine wpList_append_str_fresh _ rfl (.tmp 102) (.tmp 103) 28 9 rfl B 5 i0 Tryf.underlying28 Tryf.underlying9 hi hz0 hz1 hz2 vo out.length vc (Lib.byteCells out) rfl Hown.out t rfl (by unfold maxLen; omega) (by omega) hle ?_; intro vo' vc' w1 hown1 hg1 hf1; have Hg1 := Lib.hid hg1; have Hown1 := Lib.hid hown1; have Hf1 := Lib.hid hf1; have hb1 := hg1.heap Hblk.out Hp.out.ne; have hc1 := cell_of_heap hb1 15; have hz1 := frozen_of_heap hb1 15; simp [pc] at hc1; clear hg1 hown1 hf1 hb1))
      go_end0
      obtain ⟨h1, vo2, h2, h3⟩ := printed_mk Hp.out Hblk.out Hg1.out Hown1.out Hf1.out
      exact ⟨h1, vo2, h2, HW.out.trans h3⟩
theorem ident_any (F : Interp) (B b : Nat) (m a : Bool) (vo : Option Addr) (out : List UInt8) (t : ByteArray) (w : World) (hT : Lib.Utf8Tabs 1 2 w) (hF : F.answers w.tape) (hOk : HexOk F) (h : Pr B b m a vo out w) (ho : out.length ≤ 130000000000) (ht : t.size ≤ 600000) :
    Calls Tryf.prog 22 #[.pointer (some ⟨b, 0, none⟩), .string t, .int .u8 0, .int .u8 1] w (Wrt B b m a vo (out ++ idT F a t) w) := by
  unfold idT
  by_cases hw : wouldB t = true
  · by_cases hp : plainAll t
    · rw [if_pos ⟨hw, hp⟩]
      exact ident_plain B b m a vo out t w hw hp hT h (by omega) (by omega)
    · rw [if_neg (fun hh => hp hh.2), hw]
      exact slow_false F B b m a vo out t w hw hp hT hF hOk h ho ht
  · have hw' : wouldB t = false := by simpa using hw
    rw [if_neg (fun hh => hw hh.1), hw']
    exact slow_true F B b m a vo out t w hw' hT hF hOk h ho ht
set_option maxRecDepth 100000 in
set_option maxHeartbeats 4000000 in
theorem any_none (F : Interp) (B b : Nat) (m a el : Bool) (out : List UInt8) (nm : ByteArray) (vo : Option Addr) (w : World) (h : Pr B b m a vo out w) (hT : ∀ vo' w', Wrote b vo vo' w w' → Lib.Utf8Tabs 1 2 w') (hF : F.answers w.tape) (hOk : HexOk F) (ho : out.length ≤ 120000000000) (ht : nm.size ≤ 600000) :
    Calls Tryf.prog 17 #[.pointer (some ⟨b, 0, none⟩), .agg #[.string nm, .slice none 0 0, .bool el], .int .u8 1] w (Wrt B b m a vo (out ++ colons el ++ idT F a nm) w) := by
  have hq := fun W : World => Go.run_neq_slice_nil (P := Tryf.prog) W 66 75 none 0 0 Tryf.underlying66
  simp only [Option.isNone, Bool.not_true, Bool.not_false] at hq
  have hbs := h.lt_size
  have Hp := Lib.hid h
  have hns : (idT F a nm).length ≤ 101 * nm.size := idT_len hOk a nm
  have HT := Lib.hid hT
  have HF := Lib.hid hF
  have HOk := Lib.hid hOk
  clear h hT hF hOk
  cases el
  · go_enter Tryf.func17, Tryf.ntmps17
    go_wp2_with fail
    have Hw1 : Hid (Wrote b vo vo w (w.alloc (.cells #[.string nm, .slice none 0 0, .bool false] 68))) := Lib.hid ((Wrote.refl b vo w).alloc _)
    have Hv1 : Hid (Wrote b vo vo (w.alloc (.cells #[.string nm, .slice none 0 0, .bool false] 68)) (w.alloc (.cells #[.string nm, .slice none 0 0, .bool false] 68))) := Lib.hid (Wrote.refl b vo _)
    have Hp1 : Hid (Pr B b m a vo out (w.alloc (.cells #[.string nm, .slice none 0 0, .bool false] 68))) := Lib.hid (Hp.out.wrote ((Chg.refl Nowhere w).alloc _))
    have Hbx : Hid ((w.alloc (.cells #[.string nm, .slice none 0 0, .bool false] 68)).heap[w.heap.size]? = some (.cells #[.string nm, .slice none 0 0, .bool false] 68)) := Lib.hid (heap_alloc_at w _ _ rfl)
    refine (print_w B b m a vo (out) ⟨#[58]⟩ (w.alloc (.cells #[.string nm, .slice none 0 0, .bool false] 68)) Hp1.out (by first | omega | (simp; omega)) (by decide)).mono ?_
    rintro e2 w2 ⟨rfl, vo2, hp, hw⟩
    have Hp2 : Hid (Pr B b m a vo2 (out ++ [58]) w2) := Lib.hid hp
    have Hw2 : Hid (Wrote b vo vo2 w w2) := Lib.hid (Hw1.out.trans hw)
    have Hv2 : Hid (Wrote b vo vo2 (w.alloc (.cells #[.string nm, .slice none 0 0, .bool false] 68)) w2) := Lib.hid (Hv1.out.trans hw)
    clear hp hw
    have hb2 : w2.heap[w.heap.size]? = some (.cells #[.string nm, .slice none 0 0, .bool false] 68) := Hv2.out.heap (by omega) (fun hh => by have := (Hp.out.addr _ hh).2; omega) Hbx.out
    have x2 := cell_of_heap hb2 0
    have y2 := cell_of_heap hb2 1
    have z2 := heap_lt hb2
    simp at x2 y2
    clear hb2
    go_wp2_with fail
    refine (ident_any F B b m a vo2 (out ++ [58]) nm w2 (HT.out _ _ Hw2.out) (by rw [Hw2.out.chg.tape]; exact HF.out) HOk.out Hp2.out (by first | omega | (simp; omega)) ht).mono ?_
    rintro e3 w3 ⟨rfl, vo3, hp, hw⟩
    have Hp3 : Hid (Pr B b m a vo3 (out ++ [58] ++ idT F a nm) w3) := Lib.hid hp
    have Hw3 : Hid (Wrote b vo vo3 w w3) := Lib.hid (Hw2.out.trans hw)
    have Hv3 : Hid (Wrote b vo vo3 (w.alloc (.cells #[.string nm, .slice none 0 0, .bool false] 68)) w3) := Lib.hid (Hv2.out.trans hw)
    clear hp hw
    have hb3 : w3.heap[w.heap.size]? = some (.cells #[.string nm, .slice none 0 0, .bool false] 68) := Hv3.out.heap (by omega) (fun hh => by have := (Hp.out.addr _ hh).2; omega) Hbx.out
    have x3 := cell_of_heap hb3 0
    have y3 := cell_of_heap hb3 1
    have z3 := heap_lt hb3
    simp at x3 y3
    clear hb3
    go_wp2_with fail
    go_end0
    exact ⟨rfl, vo3, Hp3.out, Hw3.out⟩
  · go_enter Tryf.func17, Tryf.ntmps17
    go_wp2_with fail
    have Hw1 : Hid (Wrote b vo vo w (w.alloc (.cells #[.string nm, .slice none 0 0, .bool true] 68))) := Lib.hid ((Wrote.refl b vo w).alloc _)
    have Hv1 : Hid (Wrote b vo vo (w.alloc (.cells #[.string nm, .slice none 0 0, .bool true] 68)) (w.alloc (.cells #[.string nm, .slice none 0 0, .bool true] 68))) := Lib.hid (Wrote.refl b vo _)
    have Hp1 : Hid (Pr B b m a vo out (w.alloc (.cells #[.string nm, .slice none 0 0, .bool true] 68))) := Lib.hid (Hp.out.wrote ((Chg.refl Nowhere w).alloc _))
    have Hbx : Hid ((w.alloc (.cells #[.string nm, .slice none 0 0, .bool true] 68)).heap[w.heap.size]? = some (.cells #[.string nm, .slice none 0 0, .bool true] 68)) := Lib.hid (heap_alloc_at w _ _ rfl)
    refine (print_w B b m a vo (out) ⟨#[58, 58]⟩ (w.alloc (.cells #[.string nm, .slice none 0 0, .bool true] 68)) Hp1.out (by first | omega | (simp; omega)) (by decide)).mono ?_
    rintro e2 w2 ⟨rfl, vo2, hp, hw⟩
    have Hp2 : Hid (Pr B b m a vo2 (out ++ [58, 58]) w2) := Lib.hid hp
    have Hw2 : Hid (Wrote b vo vo2 w w2) := Lib.hid (Hw1.out.trans hw)
    have Hv2 : Hid (Wrote b vo vo2 (w.alloc (.cells #[.string nm, .slice none 0 0, .bool true] 68)) w2) := Lib.hid (Hv1.out.trans hw)
    clear hp hw
    have hb2 : w2.heap[w.heap.size]? = some (.cells #[.string nm, .slice none 0 0, .bool true] 68) := Hv2.out.heap (by omega) (fun hh => by have := (Hp.out.addr _ hh).2; omega) Hbx.out
    have x2 := cell_of_heap hb2 0
    have y2 := cell_of_heap hb2 1
    have z2 := heap_lt hb2
    simp at x2 y2
    clear hb2
    go_wp2_with fail
    refine (ident_any F B b m a vo2 (out ++ [58, 58]) nm w2 (HT.out _ _ Hw2.out) (by rw [Hw2.out.chg.tape]; exact HF.out) HOk.out Hp2.out (by first | omega | (simp; omega)) ht).mono ?_
    rintro e3 w3 ⟨rfl, vo3, hp, hw⟩
    have Hp3 : Hid (Pr B b m a vo3 (out ++ [58, 58] ++ idT F a nm) w3) := Lib.hid hp
    have Hw3 : Hid (Wrote b vo vo3 w w3) := Lib.hid (Hw2.out.trans hw)
    have Hv3 : Hid (Wrote b vo vo3 (w.alloc (.cells #[.string nm, .slice none 0 0, .bool true] 68)) w3) := Lib.hid (Hv2.out.trans hw)
    clear hp hw
    have hb3 : w3.heap[w.heap.size]? = some (.cells #[.string nm, .slice none 0 0, .bool true] 68) := Hv3.out.heap (by omega) (fun hh => by have := (Hp.out.addr _ hh).2; omega) Hbx.out
    have x3 := cell_of_heap hb3 0
    have y3 := cell_of_heap hb3 1
    have z3 := heap_lt hb3
    simp at x3 y3
    clear hb3
    go_wp2_with fail
    go_end0
    exact ⟨rfl, vo3, Hp3.out, Hw3.out⟩
set_option maxRecDepth 100000 in
set_option maxHeartbeats 4000000 in
theorem any_empty (F : Interp) (B b : Nat) (m a el : Bool) (out : List UInt8) (nm : ByteArray) (x : Addr) (ws : Int) (vo : Option Addr) (w : World) (h : Pr B b m a vo out w) (hT : ∀ vo' w', Wrote b vo vo' w w' → Lib.Utf8Tabs 1 2 w') (hF : F.answers w.tape) (hOk : HexOk F) (ho : out.length ≤ 120000000000) (ht : nm.size ≤ 600000) :
    Calls Tryf.prog 17 #[.pointer (some ⟨b, 0, none⟩), .agg #[.string nm, .slice (some x) 0 0, .bool el], .int .u8 ws] w (Wrt B b m a vo (out ++ colons el ++ idT F a nm ++ [40] ++ [41]) w) := by
  have hq := fun W : World => Go.run_neq_slice_nil (P := Tryf.prog) W 66 75 (some x) 0 0 Tryf.underlying66
  simp only [Option.isNone, Bool.not_true, Bool.not_false] at hq
  have hbs := h.lt_size
  have Hp := Lib.hid h
  have hns : (idT F a nm).length ≤ 101 * nm.size := idT_len hOk a nm
  have HT := Lib.hid hT
  have HF := Lib.hid hF
  have HOk := Lib.hid hOk
  clear h hT hF hOk
  cases el
  · go_enter Tryf.func17, Tryf.ntmps17
    go_wp2_with fail
    have Hw1 : Hid (Wrote b vo vo w (w.alloc (.cells #[.string nm, .slice (some x) 0 0, .bool false] 68))) := Lib.hid ((Wrote.refl b vo w).alloc _)
    have Hv1 : Hid (Wrote b vo vo (w.alloc (.cells #[.string nm, .slice (some x) 0 0, .bool false] 68)) (w.alloc (.cells #[.string nm, .slice (some x) 0 0, .bool false] 68))) := Lib.hid (Wrote.refl b vo _)
    have Hp1 : Hid (Pr B b m a vo out (w.alloc (.cells #[.string nm, .slice (some x) 0 0, .bool false] 68))) := Lib.hid (Hp.out.wrote ((Chg.refl Nowhere w).alloc _))
    have Hbx : Hid ((w.alloc (.cells #[.string nm, .slice (some x) 0 0, .bool false] 68)).heap[w.heap.size]? = some (.cells #[.string nm, .slice (some x) 0 0, .bool false] 68)) := Lib.hid (heap_alloc_at w _ _ rfl)
    refine (print_w B b m a vo (out) ⟨#[58]⟩ (w.alloc (.cells #[.string nm, .slice (some x) 0 0, .bool false] 68)) Hp1.out (by first | omega | (simp; omega)) (by decide)).mono ?_
    rintro e2 w2 ⟨rfl, vo2, hp, hw⟩
    have Hp2 : Hid (Pr B b m a vo2 (out ++ [58]) w2) := Lib.hid hp
    have Hw2 : Hid (Wrote b vo vo2 w w2) := Lib.hid (Hw1.out.trans hw)
    have Hv2 : Hid (Wrote b vo vo2 (w.alloc (.cells #[.string nm, .slice (some x) 0 0, .bool false] 68)) w2) := Lib.hid (Hv1.out.trans hw)
    clear hp hw
    have hb2 : w2.heap[w.heap.size]? = some (.cells #[.string nm, .slice (some x) 0 0, .bool false] 68) := Hv2.out.heap (by omega) (fun hh => by have := (Hp.out.addr _ hh).2; omega) Hbx.out
    have x2 := cell_of_heap hb2 0
    have y2 := cell_of_heap hb2 1
    have z2 := heap_lt hb2
    simp at x2 y2
    clear hb2
    go_wp2_with fail
    refine (ident_any F B b m a vo2 (out ++ [58]) nm w2 (HT.out _ _ Hw2.out) (by rw [Hw2.out.chg.tape]; exact HF.out) HOk.out Hp2.out (by first | omega | (simp; omega)) ht).mono ?_
    rintro e3 w3 ⟨rfl, vo3, hp, hw⟩
    have Hp3 : Hid (Pr B b m a vo3 (out ++ [58] ++ idT F a nm) w3) := Lib.hid hp
    have Hw3 : Hid (Wrote b vo vo3 w w3) := Lib.hid (Hw2.out.trans hw)
    have Hv3 : Hid (Wrote b vo vo3 (w.alloc (.cells #[.string nm, .slice (some x) 0 0, .bool false] 68)) w3) := Lib.hid (Hv2.out.trans hw)
    clear hp hw
    have hb3 : w3.heap[w.heap.size]? = some (.cells #[.string nm, .slice (some x) 0 0, .bool false] 68) := Hv3.out.heap (by omega) (fun hh => by have := (Hp.out.addr _ hh).2; omega) Hbx.out
    have x3 := cell_of_heap hb3 0
    have y3 := cell_of_heap hb3 1
    have z3 := heap_lt hb3
    simp at x3 y3
    clear hb3
    go_wp2_with fail
    refine (print_w B b m a vo3 (out ++ [58] ++ idT F a nm) ⟨#[40]⟩ w3 Hp3.out (by first | omega | (simp; omega)) (by decide)).mono ?_
    rintro e4 w4 ⟨rfl, vo4, hp, hw⟩
    have Hp4 : Hid (Pr B b m a vo4 (out ++ [58] ++ idT F a nm ++ [40]) w4) := Lib.hid hp
    have Hw4 : Hid (Wrote b vo vo4 w w4) := Lib.hid (Hw3.out.trans hw)
    have Hv4 : Hid (Wrote b vo vo4 (w.alloc (.cells #[.string nm, .slice (some x) 0 0, .bool false] 68)) w4) := Lib.hid (Hv3.out.trans hw)
    clear hp hw
    have hb4 : w4.heap[w.heap.size]? = some (.cells #[.string nm, .slice (some x) 0 0, .bool false] 68) := Hv4.out.heap (by omega) (fun hh => by have := (Hp.out.addr _ hh).2; omega) Hbx.out
    have x4 := cell_of_heap hb4 0
    have y4 := cell_of_heap hb4 1
    have z4 := heap_lt hb4
    simp at x4 y4
    clear hb4
    go_wp2_with fail
    refine (tokens0 B b m a (out ++ [58] ++ idT F a nm ++ [40]) w4 vo4 (some x) Hp4.out).mono ?_
    rintro e5 w5 ⟨r, rfl, vo5, hp, hw⟩
    have Hp5 : Hid (Pr B b m a vo5 (out ++ [58] ++ idT F a nm ++ [40]) w5) := Lib.hid hp
    have Hw5 : Hid (Wrote b vo vo5 w w5) := Lib.hid (Hw4.out.trans hw)
    have Hv5 : Hid (Wrote b vo vo5 (w.alloc (.cells #[.string nm, .slice (some x) 0 0, .bool false] 68)) w5) := Lib.hid (Hv4.out.trans hw)
    clear hp hw
    have hb5 : w5.heap[w.heap.size]? = some (.cells #[.string nm, .slice (some x) 0 0, .bool false] 68) := Hv5.out.heap (by omega) (fun hh => by have := (Hp.out.addr _ hh).2; omega) Hbx.out
    have x5 := cell_of_heap hb5 0
    have y5 := cell_of_heap hb5 1
    have z5 := heap_lt hb5
    simp at x5 y5
    clear hb5
    go_wp2_with fail
    refine (print_w B b m a vo5 (out ++ [58] ++ idT F a nm ++ [40]) ⟨#[41]⟩ w5 Hp5.out (by first | omega | (simp; omega)) (by decide)).mono ?_
    rintro e6 w6 ⟨rfl, vo6, hp, hw⟩
    have Hp6 : Hid (Pr B b m a vo6 (out ++ [58] ++ idT F a nm ++ [40] ++ [41]) w6) := Lib.hid hp
    have Hw6 : Hid (Wrote b vo vo6 w w6) := Lib.hid (Hw5.out.trans hw)
    have Hv6 : Hid (Wrote b vo vo6 (w.alloc (.cells #[.string nm, .slice (some x) 0 0, .bool false] 68)) w6) := Lib.hid (Hv5.out.trans hw)
    clear hp hw
    have hb6 : w6.heap[w.heap.size]? = some (.cells #[.string nm, .slice (some x) 0 0, .bool false] 68) := Hv6.out.heap (by omega) (fun hh => by have := (Hp.out.addr _ hh).2; omega) Hbx.out
    have x6 := cell_of_heap hb6 0
    have y6 := cell_of_heap hb6 1
    have z6 := heap_lt hb6
    simp at x6 y6
    clear hb6
    go_wp2_with fail
    go_end0
    exact ⟨rfl, vo6, Hp6.out, Hw6.out⟩
  · go_enter Tryf.func17, Tryf.ntmps17
    go_wp2_with fail
    have Hw1 : Hid (Wrote b vo vo w (w.alloc (.cells #[.string nm, .slice (some x) 0 0, .bool true] 68))) := Lib.hid ((Wrote.refl b vo w).alloc _)
    have Hv1 : Hid (Wrote b vo vo (w.alloc (.cells #[.string nm, .slice (some x) 0 0, .bool true] 68)) (w.alloc (.cells #[.string nm, .slice (some x) 0 0, .bool true] 68))) := Lib.hid (Wrote.refl b vo _)
    have Hp1 : Hid (Pr B b m a vo out (w.alloc (.cells #[.string nm, .slice (some x) 0 0, .bool true] 68))) := Lib.hid (Hp.out.wrote ((Chg.refl Nowhere w).alloc _))
    have Hbx : Hid ((w.alloc (.cells #[.string nm, .slice (some x) 0 0, .bool true] 68)).heap[w.heap.size]? = some (.cells #[.string nm, .slice (some x) 0 0, .bool true] 68)) := Lib.hid (heap_alloc_at w _ _ rfl)
    refine (print_w B b m a vo (out) ⟨#[58, 58]⟩ (w.alloc (.cells #[.string nm, .slice (some x) 0 0, .bool true] 68)) Hp1.out (by first | omega | (simp; omega)) (by decide)).mono ?_
    rintro e2 w2 ⟨rfl, vo2, hp, hw⟩
    have Hp2 : Hid (Pr B b m a vo2 (out ++ [58, 58]) w2) := Lib.hid hp
    have Hw2 : Hid (Wrote b vo vo2 w w2) := Lib.hid (Hw1.out.trans hw)
    have Hv2 : Hid (Wrote b vo vo2 (w.alloc (.cells #[.string nm, .slice (some x) 0 0, .bool true] 68)) w2) := Lib.hid (Hv1.out.trans hw)
    clear hp hw
    have hb2 : w2.heap[w.heap.size]? = some (.cells #[.string nm, .slice (some x) 0 0, .bool true] 68) := Hv2.out.heap (by omega) (fun hh => by have := (Hp.out.addr _ hh).2; omega) Hbx.out
    have x2 := cell_of_heap hb2 0
    have y2 := cell_of_heap hb2 1
    have z2 := heap_lt hb2
    simp at x2 y2
    clear hb2
    go_wp2_with fail
    refine (ident_any F B b m a vo2 (out ++ [58, 58]) nm w2 (HT.out _ _ Hw2.out) (by rw [Hw2.out.chg.tape]; exact HF.out) HOk.out Hp2.out (by first | omega | (simp; omega)) ht).mono ?_
    rintro e3 w3 ⟨rfl, vo3, hp, hw⟩
    have Hp3 : Hid (Pr B b m a vo3 (out ++ [58, 58] ++ idT F a nm) w3) := Lib.hid hp
    have Hw3 : Hid (Wrote b vo vo3 w w3) := Lib.hid (Hw2.out.trans hw)
    have Hv3 : Hid (Wrote b vo vo3 (w.alloc (.cells #[.string nm, .slice (some x) 0 0, .bool true] 68)) w3) := Lib.hid (Hv2.out.trans hw)
    clear hp hw
    have hb3 : w3.heap[w.heap.size]? = some (.cells #[.string nm, .slice (some x) 0 0, .bool true] 68) := Hv3.out.heap (by omega) (fun hh => by have := (Hp.out.addr _ hh).2; omega) Hbx.out
    have x3 := cell_of_heap hb3 0
    have y3 := cell_of_heap hb3 1
    have z3 := heap_lt hb3
    simp at x3 y3
    clear hb3
    go_wp2_with fail
    refine (print_w B b m a vo3 (out ++ [58, 58] ++ idT F a nm) ⟨#[40]⟩ w3 Hp3.out (by first | omega | (simp; omega)) (by decide)).mono ?_
    rintro e4 w4 ⟨rfl, vo4, hp, hw⟩
    have Hp4 : Hid (Pr B b m a vo4 (out ++ [58, 58] ++ idT F a nm ++ [40]) w4) := Lib.hid hp
    have Hw4 : Hid (Wrote b vo vo4 w w4) := Lib.hid (Hw3.out.trans hw)
    have Hv4 : Hid (Wrote b vo vo4 (w.alloc (.cells #[.string nm, .slice (some x) 0 0, .bool true] 68)) w4) := Lib.hid (Hv3.out.trans hw)
    clear hp hw
    have hb4 : w4.heap[w.heap.size]? = some (.cells #[.string nm, .slice (some x) 0 0, .bool true] 68) := Hv4.out.heap (by omega) (fun hh => by have := (Hp.out.addr _ hh).2; omega) Hbx.out
    have x4 := cell_of_heap hb4 0
    have y4 := cell_of_heap hb4 1
    have z4 := heap_lt hb4
    simp at x4 y4
    clear hb4
    go_wp2_with fail
    refine (tokens0 B b m a (out ++ [58, 58] ++ idT F a nm ++ [40]) w4 vo4 (some x) Hp4.out).mono ?_
    rintro e5 w5 ⟨r, rfl, vo5, hp, hw⟩
    have Hp5 : Hid (Pr B b m a vo5 (out ++ [58, 58] ++ idT F a nm ++ [40]) w5) := Lib.hid hp
    have Hw5 : Hid (Wrote b vo vo5 w w5) := Lib.hid (Hw4.out.trans hw)
    have Hv5 : Hid (Wrote b vo vo5 (w.alloc (.cells #[.string nm, .slice (some x) 0 0, .bool true] 68)) w5) := Lib.hid (Hv4.out.trans hw)
    clear hp hw
    have hb5 : w5.heap[w.heap.size]? = some (.cells #[.string nm, .slice (some x) 0 0, .bool true] 68) := Hv5.out.heap (by omega) (fun hh => by have := (Hp.out.addr _ hh).2; omega) Hbx.out
    have x5 := cell_of_heap hb5 0
    have y5 := cell_of_heap hb5 1
    have z5 := heap_lt hb5
    simp at x5 y5
    clear hb5
    go_wp2_with fail
    refine (print_w B b m a vo5 (out ++ [58, 58] ++ idT F a nm ++ [40]) ⟨#[41]⟩ w5 Hp5.out (by first | omega | (simp; omega)) (by decide)).mono ?_
    rintro e6 w6 ⟨rfl, vo6, hp, hw⟩
    have Hp6 : Hid (Pr B b m a vo6 (out ++ [58, 58] ++ idT F a nm ++ [40] ++ [41]) w6) := Lib.hid hp
    have Hw6 : Hid (Wrote b vo vo6 w w6) := Lib.hid (Hw5.out.trans hw)
    have Hv6 : Hid (Wrote b vo vo6 (w.alloc (.cells #[.string nm, .slice (some x) 0 0, .bool true] 68)) w6) := Lib.hid (Hv5.out.trans hw)
    clear hp hw
    have hb6 : w6.heap[w.heap.size]? = some (.cells #[.string nm, .slice (some x) 0 0, .bool true] 68) := Hv6.out.heap (by omega) (fun hh => by have := (Hp.out.addr _ hh).2; omega) Hbx.out
    have x6 := cell_of_heap hb6 0
    have y6 := cell_of_heap hb6 1
    have z6 := heap_lt hb6
    simp at x6 y6
    clear hb6
    go_wp2_with fail
    go_end0
    exact ⟨rfl, vo6, Hp6.out, Hw6.out⟩
end Go.Proofs.YtgfiigonjleeeaaFmt
