/-
  Proved: the walk of FnExportsMainEntryTable. No statement of the seat stands here.
-/
import Derived.Test.YtcbmankbjgbjgaaGreatFmtExo
namespace Go.Proofs.YtcbmankbjgbjgaaGreatFmt
open Go.RowKit Go.ChangeAt
open Go.Extern.Stop Go.Stop Go.Extern
set_option linter.unusedSimpArgs false
set_option linter.unusedVariables false
set_option maxRecDepth 100000
def PairOut (g s : ByteArray) (w : World) (e : Ending) (w' : World) : Prop :=
  (∃ r st, (s = ⟨#[46]⟩ → Ans g r st) ∧ (s ≠ ⟨#[46]⟩ → r = ⟨#[]⟩ ∧ st = 10) ∧ e = .returned (.tuple #[.string r, .int .u8 st])) ∧ Chg Nowhere w w'
theorem results_tmp2' {fn : Func} {t u : Tmp} (h : fn.results = #[.tmp t, .tmp u]) (tmps : Array Value) (P : Program) (w : World) :
    (results fn tmps).run P w = .ok (.tuple #[tmps.getD t undef, tmps.getD u undef]) w := by simp [results, h]
set_option maxHeartbeats 8000000 in
theorem zstr10 (F : Interp) (g s : ByteArray) (w : World) (hA : F.answers w.tape) (hg : File g) :
    Calls Tryz.prog 10 #[.string ⟨#[47, 112, 107, 103]⟩, .string s, .string (dotted g)] w (PairOut g s w) := by
  obtain ⟨t, ht⟩ : ∃ t, t = dotted g := ⟨_, rfl⟩
  rw [← ht]
  have HA := Lib.hid hA
  have Hg := Lib.hid hg
  have Ht := Lib.hid ht
  clear hA hg ht
  go_enter Tryz.func10, Tryz.ntmps10
  go_wp2_with fail
  refine (entry24 t w).mono ?_
  rintro e1 w1 ⟨rfl, hc1⟩
  have Hc1 := Lib.hid hc1
  clear hc1
  unfold sent
  go_wp2_with fail
  refine (str22 F g t s (.map none) w1 (by rw [Hc1.out.tape]; exact HA.out) Hg.out Ht.out).mono ?_
  rintro e2 w2 ⟨⟨r, st, t2, h1, h2, rfl⟩, hc2⟩
  have H1 := Lib.hid h1
  have H2 := Lib.hid h2
  have Hc2 := Lib.hid (Hc1.out.trans hc2 (fun _ _ h => h))
  clear h1 h2 hc2
  unfold dbg
  go_wp2_with fail
  refine bodyPost_ret (v := .tuple #[.string r, .int .u8 st]) ?_ rfl ⟨⟨r, st, H1.out, H2.out, rfl⟩, Hc2.out.alloc _⟩
  exact (results_tmp2' (by rfl) _ _ _).trans (by rfl)
set_option maxHeartbeats 8000000 in
theorem zobj8 (F : Interp) (a b d : Option Addr) (c c2 c3 : Nat) (f tt : Nat → ByteArray) (g s : ByteArray) (w : World) (hA : F.answers w.tape) (hg : File g) (hR : Reads w a 1 (strAt f)) (hT : Reads w b 1 (strAt tt)) (hD : Reads w d 1 noAt) (hf : f 0 = ⟨#[46]⟩) (ht : tt 0 = dotted g) (hs : s.size ≤ 1048576) :
    Calls Tryz.prog 8 #[.string ⟨#[47, 112, 107, 103]⟩, .string s, .slice a 1 c, .slice b 1 c2, .slice d 1 c3] w (PairOut g s w) := by
  have HA := Lib.hid hA
  have Hg := Lib.hid hg
  have Ht := Lib.hid ht
  have Hf := Lib.hid hf
  have HR := Lib.hid hR
  have HT := Lib.hid hT
  have HD := Lib.hid hD
  clear hA hg ht hf hR hT hD
  go_enter Tryz.func8, Tryz.ntmps8
  go_wp2_with fail
  refine (obj23 a b d 1 c c2 c3 f tt w HR.out HT.out HD.out (by decide)).mono ?_
  rintro e1 w1 ⟨ma, mc, ea, ec, rfl, hI, hc1⟩
  have Hc1 := Lib.hid hc1
  have HI := Lib.hid hI
  clear hc1 hI
  unfold oent
  go_wp2_with fail
  refine (obj22 F ma mc ea ec f tt g s (.map none) w1 (by rw [Hc1.out.tape]; exact HA.out) Hg.out HI.out Hf.out Ht.out hs).mono ?_
  rintro e2 w2 ⟨⟨r, st, t2, h1, h2, rfl⟩, hc2⟩
  have H1 := Lib.hid h1
  have H2 := Lib.hid h2
  have Hc2 := Lib.hid (Hc1.out.trans hc2 (fun _ _ h => h))
  clear h1 h2 hc2
  unfold dbg
  go_wp2_with fail
  refine bodyPost_ret (v := .tuple #[.string r, .int .u8 st]) ?_ rfl ⟨⟨r, st, H1.out, H2.out, rfl⟩, Hc2.out.alloc _⟩
  exact (results_tmp2' (by rfl) _ _ _).trans (by rfl)
theorem reads1 {W : World} {b : Nat} {v : Value} (h : W.cell? ⟨b, 0, none⟩ = some v) : Reads W (some ⟨b, 0, none⟩) 1 (fun _ => v) := .inr ⟨b, 0, rfl, fun i hi => by
  obtain rfl : i = 0 := by omega
  exact h⟩
def TrueOut (w : World) (e : Ending) (w' : World) : Prop := e = .returned (.bool true) ∧ Chg Nowhere w w'
set_option maxHeartbeats 8000000 in
theorem law3 (F : Interp) (f s : ByteArray) (b : Bool) (w : World) (hA : F.answers w.tape) : Calls Tryz.prog 3 #[.string f, .string s, .bool b] w (TrueOut w) := by
  have HA := Lib.hid hA
  clear hA
  go_enter Tryz.func3, Tryz.ntmps3
  go_wp2_with fail
  refine (zb6 f s (.bool b) w).mono ?_
  rintro e1 w1 ⟨r, rfl, rfl, hr⟩
  cases r
  · clear hr
    go_wp2_with fail
    go_ret
    exact ⟨rfl, Chg.refl _ _⟩
  obtain ⟨hfs, hss⟩ := hr rfl
  clear hr
  by_cases htot : 1048576 < (f.size : Int) + (s.size : Int)
  · go_wp2_with fail
    go_ret
    exact ⟨rfl, Chg.refl _ _⟩
  by_cases hf0 : f = ⟨#[]⟩
  · have e0 := lit_eq hf0
    clear hf0
    go_wp2_with fail
    go_ret
    exact ⟨rfl, Chg.refl _ _⟩
  have e0 := lit_ne hf0
  have Hf0 := Lib.hid hf0
  clear hf0
  go_wp2_with fail
  refine (hasSep7 f w hfs).mono ?_
  rintro e2 w2 ⟨r, rfl, rfl, hr⟩
  cases r
  case true =>
    clear hr
    go_wp2_with fail
    go_ret
    exact ⟨rfl, Chg.refl _ _⟩
  have Hg : Hid (File f) := Lib.hid ⟨hr (by trivial), Hf0.out, hfs⟩
  clear hr
  go_upto_if 38 with fail
  go_cut [8, 9] (fun c8 c9 wx => (∃ r st, (s = ⟨#[46]⟩ → Ans f r st) ∧ (s ≠ ⟨#[46]⟩ → r = ⟨#[]⟩ ∧ st = 10) ∧ c8 = .string r ∧ c9 = .int .u8 st) ∧ Chg Nowhere w wx)
  case first =>
    cases b
    · go_wp2_with fail
      refine (zstr10 F f s w HA.out Hg.out).mono ?_
      rintro e3 w3 ⟨⟨r, st, h1, h2, rfl⟩, hc⟩
      have H1 := Lib.hid h1
      have H2 := Lib.hid h2
      have Hc := Lib.hid hc
      clear h1 h2 hc
      go_wp2_with fail
      go_meet
      case rel => exact ⟨⟨r, st, H1.out, H2.out, rfl, rfl⟩, Hc.out⟩
    · go_wp2_with fail
      have hR : Reads ((w.alloc (.cells #[.string ⟨#[46]⟩] 9)).alloc (.cells #[.string (dotted f)] 9)) (some ⟨w.heap.size, 0, none⟩) 1 (strAt fun _ => ⟨#[46]⟩) := reads1 (cell_of_heap (heap_keep (heap_at w _ _ rfl) _) 0)
      have hT : Reads ((w.alloc (.cells #[.string ⟨#[46]⟩] 9)).alloc (.cells #[.string (dotted f)] 9)) (some ⟨w.heap.size + 1, 0, none⟩) 1 (strAt fun _ => dotted f) := reads1 (cell_of_heap (heap_at _ _ _ (by simp)) 0)
      have hc0 : Chg Nowhere w ((w.alloc (.cells #[.string ⟨#[46]⟩] 9)).alloc (.cells #[.string (dotted f)] 9)) := ((Chg.refl _ w).alloc _).alloc _
      unfold dotted at hR hc0 hT
      generalize hww : World.alloc (World.alloc w _) _ = w3 at hR hT hc0 ⊢
      have HR := Lib.hid hR
      have HT := Lib.hid hT
      have Hc0 := Lib.hid hc0
      clear hww hR hT hc0
      refine (flags9 (some ⟨w.heap.size, 0, none⟩) 1 1 (fun _ => ⟨#[46]⟩) w3 HR.out (by decide) (fun i hi => by decide) (fun i hi => dot_not_exp)).mono ?_
      rintro e4 w4 ⟨a4, c4, rfl, hR4, hc4⟩
      have HR4 := Lib.hid hR4
      have Hc4 := Lib.hid hc4
      clear hR4 hc4
      go_wp2_with fail
      refine (zobj8 F (some ⟨w.heap.size, 0, none⟩) (some ⟨w.heap.size + 1, 0, none⟩) (some a4) 1 1 c4 (fun _ => ⟨#[46]⟩) (fun _ => dotted f) f s w4 (by rw [Hc4.out.tape, Hc0.out.tape]; exact HA.out) Hg.out (HR.out.kept Hc4.out (fun _ _ _ h => h)) (HT.out.kept Hc4.out (fun _ _ _ h => h)) HR4.out rfl rfl hss).mono ?_
      rintro e5 w5 ⟨⟨r, st, h1, h2, rfl⟩, hc⟩
      have H1 := Lib.hid h1
      have H2 := Lib.hid h2
      have Hc := Lib.hid ((Hc0.out.trans Hc4.out (fun _ _ h => h)).trans hc (fun _ _ h => h))
      clear h1 h2 hc
      go_wp2_with fail
      go_meet
      case rel => exact ⟨⟨r, st, H1.out, H2.out, rfl, rfl⟩, Hc.out⟩
  case rest =>
  obtain ⟨⟨r, st, h1, h2, rfl, rfl⟩, hc⟩ := hcut
  have Hc := Lib.hid hc
  clear hc
  have hse : ∀ x : ByteArray, (x.toList == x.toList) = true := fun x => by simp
  by_cases hs : s = ⟨#[46]⟩
  · have ha := h1 hs
    have e1 := lit_eq hs
    clear h1 h2 hs
    go_wp2_with fail
    refine (bad11 f _).mono ?_
    rintro e4 w4 ⟨rb, rfl, rfl, hb1, hb2⟩
    cases rb
    · obtain ⟨rfl, rfl⟩ := ha.2 (hb2 (by trivial))
      clear ha hb1 hb2
      have hse2 := hse (⟨#[47, 112, 107, 103, 47]⟩ ++ f)
      clear hse
      go_wp2_with fail
      go_ret
      exact ⟨rfl, Hc.out⟩
    · obtain ⟨rfl, rfl⟩ := ha.1 (hb1 (by trivial))
      clear ha hb1 hb2
      have hse2 := hse (⟨#[46, 47]⟩ ++ f)
      clear hse
      unfold dotted
      go_wp2_with fail
      go_ret
      exact ⟨rfl, Hc.out⟩
  · have e1 := lit_ne hs
    obtain ⟨rfl, rfl⟩ := h2 hs
    clear h1 h2 hs
    go_wp2_with fail
    go_ret
    exact ⟨rfl, Hc.out⟩
end Go.Proofs.YtcbmankbjgbjgaaGreatFmt
