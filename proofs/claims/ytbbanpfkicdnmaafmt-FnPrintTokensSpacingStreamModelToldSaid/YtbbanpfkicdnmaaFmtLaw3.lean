/-
  Proved: the walk of FnPrintTokensSpacingStreamModel. No statement of the seat stands here.
-/
import Derived.Test.YtbbanpfkicdnmaaFmtModel
import Derived.Test.YtbbanpfkicdnmaaFmtLoopT
import Derived.Deep.WholeRow
namespace Go.Proofs.YtbbanpfkicdnmaaFmt
open Go.RowKit Go.ChangeAt
set_option linter.unusedSimpArgs false
set_option linter.unusedVariables false
set_option maxRecDepth 100000
/-- A whole struct stored into the block that was made last. -/
theorem wpList_store_last {P : Program} {ops : Array Oper} {rest : List Oper} {o : Oper} {a : Act} {w w0 : World} {Q : Exit → Act → World → Prop} (hgd : o.guard = none) (ty : TypeId) (x y : Operand) (ho : o.op = .store ty x y)
    (c c' : Array Value) (hw : w = w0.alloc (.cells c ty)) (g : Nat) (hx : a.eval x = .pointer (some ⟨g, 0, none⟩)) (hg : g = w0.heap.size) (hy : a.eval y = .agg c') (n : Nat) (hi : (P.info? ty).map (·.size) = some n) (hn : c'.size = n)
    (hold : c.size = c'.size) (h1 : c'.all (·.oneCell') = true)
    (h : wpList P ops Q rest (a.put o.dst undef) (w0.alloc (.cells c' ty))) : wpList P ops Q (o :: rest) a w := by
  subst hw hg
  refine wpList_plain hgd fun K hK => ?_
  unfold Oper.wp execOp
  simp only [ho, hx, hy, run_storeAt_new w0 ty c c' (hn ▸ hi) hold h1, Sem.run_bind, Sem.run_pure, Result.andThen_ok]
  exact hK _ _ h
theorem size66' : (Tryf.prog.info? 66).map (·.size) = some 43 := by kernel_rfl
def TreeOut (X : List UInt8) (r : Bool) (w : World) (e : Ending) (w' : World) : Prop :=
  ∃ vo vc, e = .returned (.tuple #[.slice vo X.length vc, .bool r]) ∧ RowAt w w' vo X.length vc X
theorem opens_length (op sel : Nat) : (opens op sel).length ≤ 5 := by
  have := ftxt_size sel
  have h : (gtxt op sel).size ≤ 4 := by unfold gtxt; split; exact this; split <;> decide
  unfold opens
  rw [List.length_append, Array.length_toList]
  have h2 : (gtxt op sel).data.size = (gtxt op sel).size := rfl
  split <;> simp <;> omega
theorem body_length (ts : Ts) : ∀ p, (body p ts).length ≤ 8 * sz ts := by
  have hs : ∀ p, (sp p).length ≤ 1 := by intro p; cases p <;> simp [sp]
  induction ts with
  | nil => intro p; simp [body]
  | leaf op sel r ih =>
    intro p
    have h1 := ih true
    have h2 := ih false
    have h3 := hs p
    have h4 : (ltxt op sel).data.toList.length ≤ 4 := by rw [Array.length_toList]; exact ltxt_size op sel
    simp only [body, sz]
    split
    · omega
    · rw [List.length_append, List.length_append]; omega
  | node op sel k r ih1 ih2 =>
    intro p
    have h1 := ih1 false
    have h2 := ih2 false
    have h3 := hs p
    have h4 := hs (fin false k)
    have h5 := opens_length op sel
    simp only [body, sz, List.length_append, List.length_cons, List.length_nil]
    omega
theorem full_length (ts : Ts) : (full ts).length ≤ 8 * sz ts + 1 := by
  have h1 := body_length ts false
  have h2 : (sp (fin false ts)).length ≤ 1 := by cases fin false ts <;> simp [sp]
  unfold full
  rw [List.length_append]
  omega
set_option maxHeartbeats 8000000 in
theorem zprintT (kvo : Option Addr) (cap L : Nat) (ts : Ts) (m dec : Bool) (hmd : m = false → dec = false) (ind : Int) (w : World) (HL : Hid (L = ts.len)) (HR : Hid (Row w (fun k => k < w.heap.size) kvo ts)) (hsz : sz ts ≤ 65536) :
    Calls Tryf.prog 7 #[.slice kvo L cap, .bool m, .int .i64 0, .int .i32 ind, .int .u8 0, .bool dec] w (TreeOut (full ts) (fin false ts) w) := by
  have Hmd := Lib.hid hmd
  clear hmd
  go_enter Tryf.func7, Tryf.ntmps7
  go_wp2_with (refine wpList_store_last rfl 66 (.tmp 14) (.tmp 19) rfl _ _ rfl _ rfl (by simp) rfl 43 size66' rfl rfl (by kernel_rfl) ?_)
  have hno : ∀ q, ¬ InRow none q := by rintro q ⟨x, hx, _⟩; cases hx
  have hc1 : Chg Nowhere w (w.alloc (.cells (pc m false (.slice none 0 0)) 66)) := (Chg.refl _ w).alloc _
  have hp : Pr w.heap.size w.heap.size m false none [] (w.alloc (.cells (pc m false (.slice none 0 0)) 66)) :=
    ⟨by simp, hno _, 0, heap_alloc_at w _ _ rfl, ⟨by simp [Lib.byteCells], .inl ⟨rfl, rfl⟩⟩⟩
  have hrow : Row (w.alloc (.cells (pc m false (.slice none 0 0)) 66)) (fun k => k < w.heap.size) kvo ts := by
    rcases HR.out with h | ⟨g, e1, e2, e3⟩
    · exact .inl h
    · exact .inr ⟨g, e1, e2, Mem.keep (fun a v _ hc => hc1.cell hc (fun h => h)) (fun _ h => h) ts g 0 e2 e3⟩
  unfold pc at hc1 hp hrow
  generalize hw1 : World.alloc w _ = w1 at hc1 hp hrow ⊢
  clear hw1
  have Hc1 := Lib.hid hc1
  clear hc1
  have hcall := tree13 w.heap.size w.heap.size m ind (fun k => k < w.heap.size) (Lib.hid fun k hk => ⟨by omega, hk⟩) 65536 (by omega) (sz ts) ts (Nat.le_refl _) hsz dec Hmd.out kvo cap [] w1 none hrow hp (by have := full_length ts; simp; omega)
  rw [← HL.out] at hcall
  refine hcall.mono ?_
  clear hcall
  rintro ex w2 ⟨rfl, vo, hp2, hw2⟩
  simp only [List.nil_append] at hp2
  obtain ⟨vc, hrow2, hown⟩ := hp2.row
  have hc15 := cell_of_heap hrow2 15
  simp only [pc, List.getElem?_toArray, List.getElem?_cons_succ, List.getElem?_cons_zero] at hc15
  have hbl := heap_lt hrow2
  have hch : Chg Nowhere w w2 := Hc1.out.trans hw2.chg (by
    intro q hq hs
    rcases hs with rfl | hs
    · omega
    · exact (hno _ hs).elim)
  have Hown := Lib.hid hown
  have Hch := Lib.hid hch
  obtain ⟨X, hX⟩ : ∃ X, X = full ts := ⟨_, rfl⟩
  rw [← hX] at hc15 Hown ⊢
  obtain ⟨fr, hfr⟩ : ∃ fr, fr = fin false ts := ⟨_, rfl⟩
  rw [← hfr]
  have HX := Lib.hid hX
  have Hfr := Lib.hid hfr
  clear hp hrow hp2 hw2 hrow2 hown hch hX hfr
  go_wp2_with fail
  go_ret2
  refine ⟨vo, vc, ?_, ?_⟩
  · rw [← HX.out, ← Hfr.out]; rfl
  · rw [← HX.out]; exact ⟨rfl, Hown.out, Hch.out⟩
theorem zb5 (a : Option Addr) (n c : Nat) (v1 v2 v3 : Value) (w : World) : Calls Tryf.prog 5 #[.slice a n c, v1, v2, v3] w (Bound1 n w) := by
  by_cases h1 : n ≤ 1048576
  · have x1 : ¬ (1048576 : Int) < (n : Int) := by omega
    go_enter Tryf.func5, Tryf.ntmps5
    go_wp2
    go_ret
    exact ⟨true, rfl, rfl, fun _ => h1⟩
  · have x1 : (1048576 : Int) < (n : Int) := by omega
    go_enter Tryf.func5, Tryf.ntmps5
    go_wp2
    go_ret
    exact ⟨false, rfl, rfl, fun h => by cases h⟩
def TrueOut3 (w : World) (e : Ending) (w' : World) : Prop := e = .returned (.bool true) ∧ Chg Nowhere w w'
set_option maxHeartbeats 8000000 in
theorem law3 (a : Option Addr) (c : Nat) (l : List UInt8) (m dec : Bool) (ind : Int) (w : World) (hr : Reads w a l.length (byteAt l)) :
    Calls Tryf.prog 3 #[.slice a l.length c, .bool m, .bool dec, .int .i32 ind] w (TrueOut3 w) := by
  have HR := Lib.hid hr
  clear hr
  obtain ⟨n, hn⟩ : ∃ n, n = l.length := ⟨_, rfl⟩
  rw [← hn] at HR ⊢
  have HN := Lib.hid hn
  clear hn
  go_enter Tryf.func3, Tryf.ntmps3
  go_wp2_with fail
  refine (zb5 a n c _ _ _ w).mono ?_
  rintro ex w1 ⟨r, rfl, rfl, hr⟩
  cases r
  · clear hr
    go_wp2_with fail
    go_ret
    exact ⟨rfl, Chg.refl _ _⟩
  have hnb := hr rfl
  clear hr
  by_cases hn2 : n ≤ 65536
  case neg =>
    have x1 : (65536 : Int) < (n : Int) := by omega
    go_wp2_with fail
    go_ret
    exact ⟨rfl, Chg.refl _ _⟩
  have x1 : ¬ (65536 : Int) < (n : Int) := by omega
  have hcase : (m = false ∧ dec = true) ∨ (m = true ∧ dec = true) ∨ dec = false := by cases m <;> cases dec <;> simp
  rcases hcase with ⟨rfl, rfl⟩ | h2
  · go_wp2_with fail
    go_ret
    exact ⟨rfl, Chg.refl _ _⟩
  have hpar := parse6 a c n l HN hn2 n 0 0 false w (Lib.hid (by simp)) (by omega) (by omega) (by omega) HR
  have Hpar := Lib.hid hpar
  clear hpar
  rcases h2 with ⟨rfl, rfl⟩ | rfl
  all_goals (
    go_wp2_with fail
    refine Hpar.out.mono ?_
    rintro ey w2 ⟨ts, q, vo, vc, hq1, hq2, rfl, hps, hrow⟩
    have hsz := parse_size hps
    have hszn : sz ts ≤ 65536 := by have := HN.out; simp only [List.drop_zero] at hsz; omega
    have Hps := Lib.hid hps
    have Hrow := Lib.hid hrow
    have hs2 := hrow.chg.size
    obtain ⟨L, hL⟩ : ∃ L, L = ts.len := ⟨_, rfl⟩
    rw [← hL]
    have HL := Lib.hid hL
    clear hps hrow hL hsz
    go_wp2_with fail
    have hR2 : Row w2 (fun k => k < w2.heap.size) vo ts := by
      rcases Hrow.out.row with h | ⟨g, e1, e2, e3⟩
      · exact .inl h
      · exact .inr ⟨g, e1, e2.2, Mem.keep (fun _ _ _ h => h) (fun k hk => hk.2) ts g 0 e2 e3⟩
    refine (zprintT vo vc L ts _ _ ?_ ind w2 HL (Lib.hid hR2) hszn).mono ?_
    · intro h; first | rfl | (cases h)
    rintro ez w3 ⟨vz, cz, rfl, hrz⟩
    have Hrz := Lib.hid hrz
    have hs3 := hrz.chg.size
    obtain ⟨X, hX⟩ : ∃ X, X = full ts := ⟨_, rfl⟩
    rw [← hX] at Hrz ⊢
    obtain ⟨fr, hfr⟩ : ∃ fr, fr = fin false ts := ⟨_, rfl⟩
    rw [← hfr]
    have HX := Lib.hid hX
    have Hfr := Lib.hid hfr
    clear hrz hX hfr hR2
    have hff : (fr == fr) = true := by simp
    go_wp2_with fail
    refine (stream8 a c n l w3 HN hn2 (Lib.hid (HR.out.kept (Hrow.out.chg.trans Hrz.out.chg (fun _ _ h => h)) (fun _ _ _ h => h)))).mono ?_
    rintro e4 w4 ⟨v4, c4, X4, r4, hrun, rfl, hr4⟩
    have hlaw := stream_law Hps.out
    rw [List.drop_zero, hrun, ← HX.out, ← Hfr.out] at hlaw
    injection hlaw with hX4 hr4e
    subst hX4
    subst hr4e
    have Hr4 := Lib.hid hr4
    have Hrn := Lib.hid hrun
    clear hr4 hrun
    go_wp2_with fail
    refine (equal9 vz v4 cz c4 X4 w4 ?_ ((reads_own Hrz.out.own).kept Hr4.out.chg (fun _ _ _ h => h)) (reads_own Hr4.out.own)).mono ?_
    · have := full_length ts
      rw [HX.out]
      omega
    rintro e5 w5 ⟨rfl, q5, rfl⟩
    go_wp2_with fail
    go_ret
    exact ⟨rfl, (((Hrow.out.chg.trans Hrz.out.chg (fun _ _ h => h)).trans Hr4.out.chg (fun _ _ h => h))).drewN q5⟩)
end Go.Proofs.YtbbanpfkicdnmaaFmt
