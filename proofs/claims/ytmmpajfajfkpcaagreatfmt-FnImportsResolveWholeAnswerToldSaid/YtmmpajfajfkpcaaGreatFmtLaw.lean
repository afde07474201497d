/-
  Proved: the walk of FnImportsResolveWholeAnswer. No statement of the seat stands here.
-/
import Derived.Test.YtmmpajfajfkpcaaGreatFmtEnt
namespace Go.Proofs.YtmmpajfajfkpcaaGreatFmt
open Go.RowKit Go.ChangeAt
set_option linter.unusedSimpArgs false
set_option linter.unusedVariables false
set_option maxRecDepth 100000
theorem results_tmp7 {fn : Func} {t u v x y z q : Tmp} (h : fn.results = #[.tmp t, .tmp u, .tmp v, .tmp x, .tmp y, .tmp z, .tmp q]) (tmps : Array Value) (P : Program) (w : World) :
    (results fn tmps).run P w = .ok (.tuple #[tmps.getD t undef, tmps.getD u undef, tmps.getD v undef, tmps.getD x undef, tmps.getD y undef, tmps.getD z undef, tmps.getD q undef]) w := by simp [results, h]
def ZOut (s : ByteArray) (kd x y : Int) (w : World) (e : Ending) (w' : World) : Prop :=
  e = .returned (.tuple #[.string (if kd = 3 then s else ⟨#[]⟩), .int .u8 (if kd = 3 then 11 else 8), .string ⟨#[]⟩, .int .i64 0, .int .i32 x, .int .i32 y, .bool false]) ∧ Chg Nowhere w w'
set_option maxHeartbeats 8000000 in
theorem zimp9 (a : Option Addr) (n c : Nat) (f : Nat → ByteArray) (x y kd : Int) (s : ByteArray) (v5 : Value) (w : World) (hF : Reads w a n (strAt f)) (hne : kd = 3 → Exp s ∨ ∀ i, i < n → f i ≠ s) (hn : n ≤ 1048576) (hs : s.size ≤ 1048576) :
    Calls Tryz.prog 9 #[.string s, .int .u8 kd, .slice a n c, .int .i32 x, .int .i32 y, v5] w (ZOut s kd x y w) := by
  have HF := Lib.hid hF
  have Hne := Lib.hid hne
  clear hF hne
  go_enter Tryz.func9, Tryz.ntmps9
  go_wp2_with fail
  refine (entry12 a n c f x y kd w HF.out hn).mono ?_
  rintro e1 w1 ⟨ma, mc, rfl, hI, hc1⟩
  have hI2 := hI.keep ((Chg.refl Nowhere w1).alloc (.cells (ent ma n mc x y kd) 42))
  have hc2 := hc1.trans ((Chg.refl Nowhere w1).alloc (.cells (ent ma n mc x y kd) 42)) (fun _ _ h => h)
  have Hbx := Lib.hid (heap_at w1 (.cells (ent ma n mc x y kd) 42) _ rfl)
  unfold ent at hI2 hc2 Hbx ⊢
  have HI := Lib.hid hI2
  have Hc2 := Lib.hid hc2
  clear hI hc1 hI2 hc2
  go_wp2_with fail
  refine (resolve13 ma n mc f x y kd s v5 _ HI.out Hne.out hn hs).mono ?_
  rintro e2 w2 ⟨rfl, hc3⟩
  have Hc3 := Lib.hid (Hc2.out.trans hc3 (fun _ _ h => h))
  clear hc3
  generalize hst : (if kd = 3 then s else ⟨#[]⟩) = so
  generalize hsn : (if kd = 3 then (11 : Int) else 8) = st
  have Hst := Lib.hid hst
  have Hsn := Lib.hid hsn
  clear hst hsn
  unfold dbg
  go_wp2_with fail
  go_region
  go_wp2_with fail
  refine bodyPost_ret (v := .tuple #[.string so, .int .u8 st, .string ⟨#[]⟩, .int .i64 0, .int .i32 x, .int .i32 y, .bool false]) ?_ rfl ⟨by rw [Hst.out, Hsn.out], (Hc3.out.alloc _).drew⟩
  exact (results_tmp7 (by rfl) _ _ _).trans (by rfl)
def TrueOut (w : World) (e : Ending) (w' : World) : Prop := e = .returned (.bool true) ∧ Chg Nowhere w w'
set_option maxHeartbeats 8000000 in
theorem law3 (s : ByteArray) (kd x y : Int) (a b : Option Addr) (n c m d : Nat) (f h : Nat → ByteArray) (w : World) (hF : Reads w a n (strAt f)) (hH : Reads w b m (strAt h)) (na : a = none → n = 0 ∧ c = 0) (nb : b = none → m = 0 ∧ d = 0) :
    Calls Tryz.prog 3 #[.string s, .int .u8 kd, .slice a n c, .int .i32 x, .int .i32 y, .slice b m d] w (TrueOut w) := by
  have HF := Lib.hid hF
  have HH := Lib.hid hH
  have Na := Lib.hid na
  have Nb := Lib.hid nb
  clear hF hH na nb
  go_enter Tryz.func3, Tryz.ntmps3
  go_wp2_with fail
  refine (zb4 s _ _ _ a b n c m d f h w HF.out HH.out).mono ?_
  rintro e1 w1 ⟨r, rfl, rfl, hr⟩
  cases r
  · clear hr
    go_wp2_with fail
    go_ret
    exact ⟨rfl, Chg.refl _ _⟩
  obtain ⟨hs, hf, hh⟩ := hr rfl
  clear hr
  have Hf := Lib.hid hf
  have Hh := Lib.hid hh
  have hn := hf.few
  have hm := hh.few
  clear hf hh
  go_wp2_with fail
  refine (sum5 a n c f w HF.out Hf.out).mono ?_
  rintro e2 w2 ⟨y1, hy1, hy2, rfl, rfl⟩
  go_wp2_with fail
  refine (sum5 b m d h w HH.out Hh.out).mono ?_
  rintro e3 w3 ⟨y2, hy3, hy4, rfl, rfl⟩
  by_cases htot : 1048576 < (s.size : Int) + y1 + y2
  · go_wp2_with fail
    go_ret
    exact ⟨rfl, Chg.refl _ _⟩
  go_wp2_with fail
  refine (prem6 s kd a n c f w HF.out Hf.out hs).mono ?_
  rintro e4 w4 ⟨r4, rfl, rfl, hr4⟩
  cases r4
  · clear hr4
    go_wp2_with fail
    go_ret
    exact ⟨rfl, Chg.refl _ _⟩
  have Hr4 := Lib.hid (hr4 rfl)
  clear hr4
  go_wp2_with fail
  refine (clone7 a n c f w HF.out Na.out hn).mono ?_
  rintro e5 w5 ⟨a5, c5, rfl, hR5, hc5⟩
  have HR5 := Lib.hid hR5
  have Hc5 := Lib.hid hc5
  clear hR5 hc5
  go_wp2_with fail
  refine (clone7 b m d h w5 (HH.out.kept Hc5.out (fun _ _ _ h => h)) Nb.out hm).mono ?_
  rintro e6 w6 ⟨a6, c6, rfl, hR6, hc6⟩
  have HR6 := Lib.hid hR6
  have Hc6 := Lib.hid hc6
  clear hR6 hc6
  go_wp2_with fail
  refine (cond8 a6 m c6 h w6 HR6.out Hh.out).mono ?_
  rintro e7 w7 ⟨mm, rfl, hc7⟩
  have Hc7 := Lib.hid hc7
  clear hc7
  go_wp2_with fail
  refine (zimp9 a5 n c5 f x y kd s _ w7 ((HR5.out.kept Hc6.out (fun _ _ _ h => h)).kept Hc7.out (fun _ _ _ h => h)) Hr4.out.2 hn hs).mono ?_
  rintro e8 w8 ⟨rfl, hc8⟩
  have Hall : Hid (Chg Nowhere w w8) := Lib.hid (((Hc5.out.trans Hc6.out (fun _ _ h => h)).trans Hc7.out (fun _ _ h => h)).trans hc8 (fun _ _ h => h))
  clear hc8
  have hx : (x != x) = false := by simp
  have hy : (y != y) = false := by simp
  have hse : (s.toList == s.toList) = true := by simp
  by_cases h3 : kd = 3
  · subst h3
    simp only [if_true]
    go_wp2_with fail
    go_ret
    exact ⟨rfl, Hall.out⟩
  · have e3 : (kd != 3) = true := by simpa using h3
    simp only [if_neg h3]
    have H3 := Lib.hid h3
    clear h3
    go_wp2_with fail
    go_ret
    exact ⟨rfl, Hall.out⟩
end Go.Proofs.YtmmpajfajfkpcaaGreatFmt
