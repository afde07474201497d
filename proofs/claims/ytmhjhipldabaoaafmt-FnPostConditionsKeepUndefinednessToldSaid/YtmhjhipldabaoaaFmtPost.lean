/-
  Proved: contract of esmHandlePostConditions at this program. No statement of the seat stands here.
-/
import Derived.Test.YtmhjhipldabaoaaFmtPkg
namespace Go.Proofs.YtmhjhipldabaoaaFmt
open Go.RowKit Go.ChangeAt
set_option linter.unusedSimpArgs false
set_option linter.unusedVariables false

theorem Al.fill (b : Nat → Nat) (n : Nat) : ∀ m i out k sl, n - i = m → Al b n i out k sl → i ≤ n → ∀ r, dec b n i = some r → ∃ k', Al b n n (out ++ r.1) k' (sl || r.2) := by
  intro m
  induction m using Nat.strongRecOn with
  | ind m ih =>
    intro i out k sl hm ha hi r hr
    rw [dec.eq_def] at hr
    by_cases hlt : i < n
    · rw [if_pos hlt] at hr
      by_cases hc : b i = 37
      · rw [if_pos hc] at hr
        by_cases hg : i + 2 < n ∧ isHex (b (i + 1)) = true ∧ isHex (b (i + 2)) = true
        · rw [if_pos hg] at hr
          cases hd : dec b n (i + 3) with
          | none => rw [hd] at hr; cases hr
          | some r2 =>
            rw [hd] at hr
            simp at hr
            obtain ⟨k2, h2⟩ := ih (n - (i + 3)) (by omega) (i + 3) _ _ _ rfl (Al.esc ha hg.1 hc hg.2.1 hg.2.2) (by omega) r2 hd
            refine ⟨k2, ?_⟩
            rw [← hr]
            simpa [Bool.or_assoc] using h2
        · rw [if_neg hg] at hr; cases hr
      · rw [if_neg hc] at hr
        cases hd : dec b n (i + 1) with
        | none => rw [hd] at hr; cases hr
        | some r2 =>
          rw [hd] at hr
          simp at hr
          obtain ⟨k2, h2⟩ := ih (n - (i + 1)) (by omega) (i + 1) _ _ _ rfl (Al.plain ha hlt hc) (by omega) r2 hd
          refine ⟨k2, ?_⟩
          rw [← hr]
          simpa using h2
    · rw [if_neg hlt] at hr
      injection hr with hr
      subst hr
      obtain rfl : i = n := by omega
      exact ⟨k, by simpa using ha⟩
theorem al_of_dec {b : Nat → Nat} {n : Nat} {out : List UInt8} {sl : Bool} (h : dec b n 0 = some (out, sl)) : ∃ k, Al b n n out k sl := by
  obtain ⟨k, hk⟩ := Al.fill b n (n - 0) 0 [] 0 false rfl .nil (by omega) _ h
  exact ⟨k, by simpa using hk⟩
theorem slash_has {s : ByteArray} {out : List UInt8} {sl : Bool} (h : dec (bt s) s.size 0 = some (out, sl)) : sl = true ↔ Has s 50 102 ∨ Has s 50 70 ∨ Has s 53 99 ∨ Has s 53 67 := by
  obtain ⟨k, hk⟩ := al_of_dec h
  rw [hk.slash]
  unfold Has here
  constructor
  · rintro ⟨j, _, hj⟩
    obtain ⟨h1, h2, h3⟩ := slash_cases.1 hj
    rcases h3 with ⟨h4, h5 | h5⟩ | ⟨h4, h5 | h5⟩
    · exact .inl ⟨j, h1, h2, h4, h5⟩
    · exact .inr (.inl ⟨j, h1, h2, h4, h5⟩)
    · exact .inr (.inr (.inl ⟨j, h1, h2, h4, h5⟩))
    · exact .inr (.inr (.inr ⟨j, h1, h2, h4, h5⟩))
  · rintro (⟨j, h1, h2, h4, h5⟩ | ⟨j, h1, h2, h4, h5⟩ | ⟨j, h1, h2, h4, h5⟩ | ⟨j, h1, h2, h4, h5⟩)
    · exact ⟨j, by omega, slash_cases.2 ⟨h1, h2, .inl ⟨h4, .inl h5⟩⟩⟩
    · exact ⟨j, by omega, slash_cases.2 ⟨h1, h2, .inl ⟨h4, .inr h5⟩⟩⟩
    · exact ⟨j, by omega, slash_cases.2 ⟨h1, h2, .inr ⟨h4, .inl h5⟩⟩⟩
    · exact ⟨j, by omega, slash_cases.2 ⟨h1, h2, .inr ⟨h4, .inr h5⟩⟩⟩
def rq : Value := .agg #[.pointer none, .pointer none, .pointer none, .int .u8 0]
def dbg (b : ByteArray) (x y : Int) (n : Bool) : Value := .agg #[.string b, .slice none 0 0, .int .i32 x, .int .i32 y, .bool n]
def PostOut (o : ByteArray) (st : Nat) (d : Value) (w : World) (e : Ending) (w' : World) : Prop := e = .returned (.tuple #[.string o, .int .u8 st, d]) ∧ Below w.heap.size w w'
theorem results_ttc {fn : Func} {t u p : Tmp} {ty : TypeId} (h : fn.results = #[.tmp t, .tmp u, .cell p ty]) (tmps : Array Value) (P : Program) (w : World) (b : Nat) (v : Value)
    (hp : tmps.getD p undef = .pointer (some ⟨b, 0, none⟩)) (hl : (loadVar ty ⟨b, 0, none⟩).run P w = .ok v w) : (results fn tmps).run P w = .ok (.tuple #[tmps.getD t undef, tmps.getD u undef, v]) w := by
  have hp2 : tmps[p]?.getD undef = .pointer (some ⟨b, 0, none⟩) := by simpa using hp
  simp [results, h, Result.andThen, hp2, asAddr, hl]
theorem load36 {w : World} {b : Nat} {cs : Array Value} (h : w.heap[b]? = some (.cells cs 36 (0, 0))) (hs : cs.size = 5) : (loadVar 36 ⟨b, 0, none⟩).run Tryf.prog w = .ok (.agg cs) w := by
  refine run_loadVar_row w b 36 36 cs (0, 0) _ h Tryf.underlying36 (by rfl) ?_
  rw [hs]
  kernel_rfl
theorem bel_alloc {w w' : World} (h : Below w.heap.size w w') (o : Obj) : Below w.heap.size w (w'.alloc o) := h.alloc h.size o
/-- What lies in the three blocks that the function lays at its begin. -/
structure Frame (w wr : World) (d z : Array Value) : Prop where
  q : wr.heap[w.heap.size]? = some (.cells #[.pointer none, .pointer none, .pointer none, .int .u8 0] 44 (0, 0))
  d : wr.heap[w.heap.size + 1]? = some (.cells d 36 (0, 0))
  z : wr.heap[w.heap.size + 1 + 1]? = some (.cells z 36 (0, 0))
  bel : Below w.heap.size w wr
theorem Frame.start (w : World) (d z : Array Value) : Frame w (((w.alloc (.cells #[.pointer none, .pointer none, .pointer none, .int .u8 0] 44)).alloc (.cells d 36)).alloc (.cells z 36)) d z := by
  refine ⟨?_, ?_, ?_, bel_alloc (bel_alloc (bel_alloc (Below.refl _ w) _) _) _⟩
  · exact heap_alloc_old _ _ (heap_lt (heap_alloc_old _ _ (heap_lt (heap_alloc_new w _)) |>.trans (heap_alloc_new w _))) |>.trans ((heap_alloc_old _ _ (heap_lt (heap_alloc_new w _))).trans (heap_alloc_new w _))
  · have h := heap_alloc_new (w.alloc (.cells #[.pointer none, .pointer none, .pointer none, .int .u8 0] 44)) (.cells d 36)
    have h1 : (w.alloc (.cells #[.pointer none, .pointer none, .pointer none, .int .u8 0] 44)).heap.size = w.heap.size + 1 := by simp
    rw [h1] at h
    exact (heap_alloc_old _ _ (heap_lt h)).trans h
  · have h := heap_alloc_new ((w.alloc (.cells #[.pointer none, .pointer none, .pointer none, .int .u8 0] 44)).alloc (.cells d 36)) (.cells z 36)
    have h1 : ((w.alloc (.cells #[.pointer none, .pointer none, .pointer none, .int .u8 0] 44)).alloc (.cells d 36)).heap.size = w.heap.size + 1 + 1 := by simp
    rw [h1] at h
    exact h
theorem Frame.keep {w wr w1 : World} {d z : Array Value} (h : Frame w wr d z) (hb : Below wr.heap.size wr w1) : Frame w w1 d z :=
  ⟨(hb.block _ (heap_lt h.q)).trans h.q, (hb.block _ (heap_lt h.d)).trans h.d, (hb.block _ (heap_lt h.z)).trans h.z, h.bel.trans (hb.mono h.bel.size)⟩
theorem Frame.drew {w wr : World} {d z : Array Value} (h : Frame w wr d z) : Frame w wr.drew d z := ⟨h.q, h.d, h.z, h.bel.drew⟩
theorem Frame.top3 {w wr : World} {d z : Array Value} (h : Frame w wr d z) : wr.drew.heap[w.heap.size + 1 + 1]? = some (.cells z 36 (0, 0)) := h.z
set_option maxRecDepth 100000 in
theorem post_idle (s b : ByteArray) (x y : Int) (n : Bool) (st : Nat) (hst : st < 256) (ha : act st = false) (w : World) :
    Calls Tryf.prog 13 #[rq, .string s, .int .u8 st, dbg b x y n] w (PostOut s st (dbg b x y n) w) := by
  have h0 : ((st : Int) != 3) = true := by simp [act] at *; omega
  have h1 : ((st : Int) != 4) = true := by simp [act] at *; omega
  have h2 : ((st : Int) != 5) = true := by simp [act] at *; omega
  clear ha
  unfold rq dbg
  go_enter Tryf.func13, Tryf.ntmps13
  go_wp2
  go_region
  go_wp2
  refine bodyPost_ret (v := .tuple #[.string s, .int .u8 st, .agg #[.string b, .slice none 0 0, .int .i32 x, .int .i32 y, .bool n]]) ?_ rfl ⟨rfl, (bel_alloc (bel_alloc (bel_alloc (Below.refl _ w) _) _) _).drew⟩


  exact (results_ttc (t := 8) (u := 9) (p := 10) (ty := 36) (by rfl) _ _ _ (w.heap.size + 1 + 1) (.agg #[.string b, .slice none 0 0, .int .i32 x, .int .i32 y, .bool n]) (by rfl) (load36 (Frame.start w _ _).top3 (by rfl))).trans (by rfl)
theorem drew_heap (w : World) : w.drew.heap = w.heap := rfl
def st5 (wr : World) (b : Nat) (a0 a1 a2 a3 a4 : Value) : World := ((((wr.setCell ⟨b, 0, none⟩ a0).setCell ⟨b, 1, none⟩ a1).setCell ⟨b, 2, none⟩ a2).setCell ⟨b, 3, none⟩ a3).setCell ⟨b, 4, none⟩ a4
theorem st5_heap {wr : World} {b : Nat} {z0 z1 z2 z3 z4 : Value} (h : wr.heap[b]? = some (.cells #[z0, z1, z2, z3, z4] 36 (0, 0))) (a0 a1 a2 a3 a4 : Value) : (st5 wr b a0 a1 a2 a3 a4).heap[b]? = some (.cells #[a0, a1, a2, a3, a4] 36 (0, 0)) := by
  unfold st5
  have h1 := heap_setCell h 0 a0
  have h2 := heap_setCell h1 1 a1
  have h3 := heap_setCell h2 2 a2
  have h4 := heap_setCell h3 3 a3
  have h5 := heap_setCell h4 4 a4
  rw [h5]
  rfl
theorem st5_below {w wr : World} {b : Nat} (h : Below w.heap.size w wr) (hB : w.heap.size ≤ b) (a0 a1 a2 a3 a4 : Value) : Below w.heap.size w (st5 wr b a0 a1 a2 a3 a4) := by
  unfold st5
  have h1 := h.setCell (p := ⟨b, 0, none⟩) hB a0
  have h2 := h1.setCell (p := ⟨b, 1, none⟩) hB a1
  have h3 := h2.setCell (p := ⟨b, 2, none⟩) hB a2
  have h4 := h3.setCell (p := ⟨b, 3, none⟩) hB a3
  exact h4.setCell (p := ⟨b, 4, none⟩) hB a4
theorem Frame.done5 {w wr : World} {d : Array Value} {z0 z1 z2 z3 z4 : Value} (h : Frame w wr d #[z0, z1, z2, z3, z4]) (a0 a1 a2 a3 a4 : Value) :
    (st5 wr (w.heap.size + 1 + 1) a0 a1 a2 a3 a4).drew.heap[w.heap.size + 1 + 1]? = some (.cells #[a0, a1, a2, a3, a4] 36 (0, 0)) ∧ Below w.heap.size w (st5 wr (w.heap.size + 1 + 1) a0 a1 a2 a3 a4).drew :=
  ⟨(congrArg (fun hp : Array Obj => hp[w.heap.size + 1 + 1]?) (drew_heap _)).trans (st5_heap h.z a0 a1 a2 a3 a4), (st5_below h.bel (by omega) a0 a1 a2 a3 a4).drew⟩
def endSl (out : List UInt8) : Bool := Lib.hasSuffix out [47] || Lib.hasSuffix out [92]
/-- What the function answers. -/
def post (s : ByteArray) (st : Nat) : ByteArray × Nat :=
  if act st = true then
    match dec (bt s) s.size 0 with
    | none => (s, 7)
    | some (out, sl) => if sl = true then (s, 7) else if endSl out = true then (s, 14) else (⟨out.toArray⟩, st)
  else (s, st)
set_option maxRecDepth 100000 in
set_option maxHeartbeats 2000000 in
theorem post_bad (s b : ByteArray) (hs : s.size ≤ 1048576) (x y : Int) (n : Bool) (st : Nat) (hst : st = 3 ∨ st = 4 ∨ st = 5) (hd : dec (bt s) s.size 0 = none) (w : World) (hw0 : 0 < w.heap.size) (hT : HexTab w) :
    Calls Tryf.prog 13 #[rq, .string s, .int .u8 st, dbg b x y n] w (PostOut s 7 (dbg b x y n) w) := by
  have HT := Lib.hid hT
  clear hT
  have Hd := Lib.hid hd
  clear hd
  unfold rq dbg
  rcases hst with rfl | rfl | rfl
  all_goals (
    go_enter Tryf.func13, Tryf.ntmps13
    go_wp2_with fail
    have Hf := Lib.hid (Frame.start w #[.string b, .slice none 0 0, .int .i32 x, .int .i32 y, .bool n] #[.string ⟨#[]⟩, .slice none 0 0, .int .i32 0, .int .i32 0, .bool false])
    generalize hw3 : (((w.alloc (.cells #[.pointer none, .pointer none, .pointer none, .int .u8 0] 44)).alloc (.cells #[.string b, .slice none 0 0, .int .i32 x, .int .i32 y, .bool n] 36)).alloc (.cells #[.string ⟨#[]⟩, .slice none 0 0, .int .i32 0, .int .i32 0, .bool false] 36)) = w3 at Hf ⊢
    clear hw3
    refine (pathUnescape_any s hs w3 (HT.out.below Hf.out.bel hw0)).mono ?_
    rintro e w1 ⟨h1, _⟩
    obtain ⟨ex, rfl, rfl⟩ := h1 Hd.out
    have HF := Hf
    clear h1
    have hq2 := cell_of_heap HF.out.q 2
    have hd0 := cell_of_heap HF.out.d 0
    have hd1 := cell_of_heap HF.out.d 1
    have hd2 := cell_of_heap HF.out.d 2
    have hd3 := cell_of_heap HF.out.d 3
    have hd4 := cell_of_heap HF.out.d 4
    have hz0 := cell_of_heap HF.out.z 0
    have hz1 := cell_of_heap HF.out.z 1
    have hz2 := cell_of_heap HF.out.z 2
    have hz3 := cell_of_heap HF.out.z 3
    have hz4 := cell_of_heap HF.out.z 4
    have fz0 := frozen_of_heap HF.out.z 0
    have fz1 := frozen_of_heap HF.out.z 1
    have fz2 := frozen_of_heap HF.out.z 2
    have fz3 := frozen_of_heap HF.out.z 3
    have fz4 := frozen_of_heap HF.out.z 4
    simp at hq2 hd0 hd1 hd2 hd3 hd4 hz0 hz1 hz2 hz3 hz4
    go_wp2
    go_region
    go_wp2
    obtain ⟨hW, hB⟩ := HF.out.done5 (.string b) (.slice none 0 0) (.int .i32 x) (.int .i32 y) (.bool n)
    refine bodyPost_ret (v := .tuple #[.string s, .int .u8 7, .agg #[.string b, .slice none 0 0, .int .i32 x, .int .i32 y, .bool n]]) ?_ rfl ⟨rfl, hB⟩
    exact (results_ttc (t := 8) (u := 9) (p := 10) (ty := 36) (by rfl) _ _ _ (w.heap.size + 1 + 1) (.agg #[.string b, .slice none 0 0, .int .i32 x, .int .i32 y, .bool n]) (by rfl) (load36 hW (by rfl))).trans (by rfl))
set_option maxRecDepth 100000 in
set_option maxHeartbeats 2000000 in
theorem post_has1 (s b : ByteArray) (hs : s.size ≤ 1048576) (x y : Int) (n : Bool) (st : Nat) (hst : st = 3 ∨ st = 4 ∨ st = 5) (out : List UInt8) (sl : Bool) (hd : dec (bt s) s.size 0 = some (out, sl))  (hy : Has s 50 102) (w : World) (hw0 : 0 < w.heap.size) (hT : HexTab w) :
    Calls Tryf.prog 13 #[rq, .string s, .int .u8 st, dbg b x y n] w (PostOut s 7 (dbg b x y n) w) := by
  have HT := Lib.hid hT
  clear hT
  have Hd := Lib.hid hd
  have Hy := Lib.hid hy
  clear hd hy
  unfold rq dbg
  rcases hst with rfl | rfl | rfl
  all_goals (
    go_enter Tryf.func13, Tryf.ntmps13
    go_wp2_with fail
    have Hf := Lib.hid (Frame.start w #[.string b, .slice none 0 0, .int .i32 x, .int .i32 y, .bool n] #[.string ⟨#[]⟩, .slice none 0 0, .int .i32 0, .int .i32 0, .bool false])
    generalize hw3 : (((w.alloc (.cells #[.pointer none, .pointer none, .pointer none, .int .u8 0] 44)).alloc (.cells #[.string b, .slice none 0 0, .int .i32 x, .int .i32 y, .bool n] 36)).alloc (.cells #[.string ⟨#[]⟩, .slice none 0 0, .int .i32 0, .int .i32 0, .bool false] 36)) = w3 at Hf ⊢
    clear hw3
    refine (pathUnescape_any s hs w3 (HT.out.below Hf.out.bel hw0)).mono ?_
    rintro e w1 ⟨_, h1⟩
    obtain ⟨rfl, hb⟩ := h1 out sl Hd.out
    have HF := Lib.hid (Hf.out.keep hb)
    clear h1 hb
    have hq2 := cell_of_heap HF.out.q 2
    have hd0 := cell_of_heap HF.out.d 0
    have hd1 := cell_of_heap HF.out.d 1
    have hd2 := cell_of_heap HF.out.d 2
    have hd3 := cell_of_heap HF.out.d 3
    have hd4 := cell_of_heap HF.out.d 4
    have hz0 := cell_of_heap HF.out.z 0
    have hz1 := cell_of_heap HF.out.z 1
    have hz2 := cell_of_heap HF.out.z 2
    have hz3 := cell_of_heap HF.out.z 3
    have hz4 := cell_of_heap HF.out.z 4
    have fz0 := frozen_of_heap HF.out.z 0
    have fz1 := frozen_of_heap HF.out.z 1
    have fz2 := frozen_of_heap HF.out.z 2
    have fz3 := frozen_of_heap HF.out.z 3
    have fz4 := frozen_of_heap HF.out.z 4
    simp at hq2 hd0 hd1 hd2 hd3 hd4 hz0 hz1 hz2 hz3 hz4
    go_wp2_with fail
    refine (contains_yes s 50 102 hs Hy.out _).mono ?_
    rintro e w' ⟨rfl, rfl⟩
    go_wp2
    go_region
    go_wp2
    obtain ⟨hW, hB⟩ := HF.out.done5 (.string b) (.slice none 0 0) (.int .i32 x) (.int .i32 y) (.bool n)
    refine bodyPost_ret (v := .tuple #[.string s, .int .u8 7, .agg #[.string b, .slice none 0 0, .int .i32 x, .int .i32 y, .bool n]]) ?_ rfl ⟨rfl, hB⟩
    exact (results_ttc (t := 8) (u := 9) (p := 10) (ty := 36) (by rfl) _ _ _ (w.heap.size + 1 + 1) (.agg #[.string b, .slice none 0 0, .int .i32 x, .int .i32 y, .bool n]) (by rfl) (load36 hW (by rfl))).trans (by rfl))
set_option maxRecDepth 100000 in
set_option maxHeartbeats 2000000 in
theorem post_has2 (s b : ByteArray) (hs : s.size ≤ 1048576) (x y : Int) (n : Bool) (st : Nat) (hst : st = 3 ∨ st = 4 ∨ st = 5) (out : List UInt8) (sl : Bool) (hd : dec (bt s) s.size 0 = some (out, sl)) (hn1 : ¬ Has s 50 102) (hy : Has s 50 70) (w : World) (hw0 : 0 < w.heap.size) (hT : HexTab w) :
    Calls Tryf.prog 13 #[rq, .string s, .int .u8 st, dbg b x y n] w (PostOut s 7 (dbg b x y n) w) := by
  have HT := Lib.hid hT
  clear hT
  have Hd := Lib.hid hd
  have Hn1 := Lib.hid hn1
  have Hy := Lib.hid hy
  clear hd hy hn1
  unfold rq dbg
  rcases hst with rfl | rfl | rfl
  all_goals (
    go_enter Tryf.func13, Tryf.ntmps13
    go_wp2_with fail
    have Hf := Lib.hid (Frame.start w #[.string b, .slice none 0 0, .int .i32 x, .int .i32 y, .bool n] #[.string ⟨#[]⟩, .slice none 0 0, .int .i32 0, .int .i32 0, .bool false])
    generalize hw3 : (((w.alloc (.cells #[.pointer none, .pointer none, .pointer none, .int .u8 0] 44)).alloc (.cells #[.string b, .slice none 0 0, .int .i32 x, .int .i32 y, .bool n] 36)).alloc (.cells #[.string ⟨#[]⟩, .slice none 0 0, .int .i32 0, .int .i32 0, .bool false] 36)) = w3 at Hf ⊢
    clear hw3
    refine (pathUnescape_any s hs w3 (HT.out.below Hf.out.bel hw0)).mono ?_
    rintro e w1 ⟨_, h1⟩
    obtain ⟨rfl, hb⟩ := h1 out sl Hd.out
    have HF := Lib.hid (Hf.out.keep hb)
    clear h1 hb
    have hq2 := cell_of_heap HF.out.q 2
    have hd0 := cell_of_heap HF.out.d 0
    have hd1 := cell_of_heap HF.out.d 1
    have hd2 := cell_of_heap HF.out.d 2
    have hd3 := cell_of_heap HF.out.d 3
    have hd4 := cell_of_heap HF.out.d 4
    have hz0 := cell_of_heap HF.out.z 0
    have hz1 := cell_of_heap HF.out.z 1
    have hz2 := cell_of_heap HF.out.z 2
    have hz3 := cell_of_heap HF.out.z 3
    have hz4 := cell_of_heap HF.out.z 4
    have fz0 := frozen_of_heap HF.out.z 0
    have fz1 := frozen_of_heap HF.out.z 1
    have fz2 := frozen_of_heap HF.out.z 2
    have fz3 := frozen_of_heap HF.out.z 3
    have fz4 := frozen_of_heap HF.out.z 4
    simp at hq2 hd0 hd1 hd2 hd3 hd4 hz0 hz1 hz2 hz3 hz4
    go_wp2_with fail
    refine (contains_no s 50 102 hs Hn1.out _).mono ?_
    rintro e w' ⟨rfl, rfl⟩
    go_wp2_with fail
    refine (contains_yes s 50 70 hs Hy.out _).mono ?_
    rintro e w' ⟨rfl, rfl⟩
    go_wp2
    go_region
    go_wp2
    obtain ⟨hW, hB⟩ := HF.out.done5 (.string b) (.slice none 0 0) (.int .i32 x) (.int .i32 y) (.bool n)
    refine bodyPost_ret (v := .tuple #[.string s, .int .u8 7, .agg #[.string b, .slice none 0 0, .int .i32 x, .int .i32 y, .bool n]]) ?_ rfl ⟨rfl, hB⟩
    exact (results_ttc (t := 8) (u := 9) (p := 10) (ty := 36) (by rfl) _ _ _ (w.heap.size + 1 + 1) (.agg #[.string b, .slice none 0 0, .int .i32 x, .int .i32 y, .bool n]) (by rfl) (load36 hW (by rfl))).trans (by rfl))
set_option maxRecDepth 100000 in
set_option maxHeartbeats 2000000 in
theorem post_has3 (s b : ByteArray) (hs : s.size ≤ 1048576) (x y : Int) (n : Bool) (st : Nat) (hst : st = 3 ∨ st = 4 ∨ st = 5) (out : List UInt8) (sl : Bool) (hd : dec (bt s) s.size 0 = some (out, sl)) (hn1 : ¬ Has s 50 102) (hn2 : ¬ Has s 50 70) (hy : Has s 53 99) (w : World) (hw0 : 0 < w.heap.size) (hT : HexTab w) :
    Calls Tryf.prog 13 #[rq, .string s, .int .u8 st, dbg b x y n] w (PostOut s 7 (dbg b x y n) w) := by
  have HT := Lib.hid hT
  clear hT
  have Hd := Lib.hid hd
  have Hn1 := Lib.hid hn1
  have Hn2 := Lib.hid hn2
  have Hy := Lib.hid hy
  clear hd hy hn1 hn2
  unfold rq dbg
  rcases hst with rfl | rfl | rfl
  all_goals (
    go_enter Tryf.func13, Tryf.ntmps13
    go_wp2_with fail
    have Hf := Lib.hid (Frame.start w #[.string b, .slice none 0 0, .int .i32 x, .int .i32 y, .bool n] #[.string ⟨#[]⟩, .slice none 0 0, .int .i32 0, .int .i32 0, .bool false])
    generalize hw3 : (((w.alloc (.cells #[.pointer none, .pointer none, .pointer none, .int .u8 0] 44)).alloc (.cells #[.string b, .slice none 0 0, .int .i32 x, .int .i32 y, .bool n] 36)).alloc (.cells #[.string ⟨#[]⟩, .slice none 0 0, .int .i32 0, .int .i32 0, .bool false] 36)) = w3 at Hf ⊢
    clear hw3
    refine (pathUnescape_any s hs w3 (HT.out.below Hf.out.bel hw0)).mono ?_
    rintro e w1 ⟨_, h1⟩
    obtain ⟨rfl, hb⟩ := h1 out sl Hd.out
    have HF := Lib.hid (Hf.out.keep hb)
    clear h1 hb
    have hq2 := cell_of_heap HF.out.q 2
    have hd0 := cell_of_heap HF.out.d 0
    have hd1 := cell_of_heap HF.out.d 1
    have hd2 := cell_of_heap HF.out.d 2
    have hd3 := cell_of_heap HF.out.d 3
    have hd4 := cell_of_heap HF.out.d 4
    have hz0 := cell_of_heap HF.out.z 0
    have hz1 := cell_of_heap HF.out.z 1
    have hz2 := cell_of_heap HF.out.z 2
    have hz3 := cell_of_heap HF.out.z 3
    have hz4 := cell_of_heap HF.out.z 4
    have fz0 := frozen_of_heap HF.out.z 0
    have fz1 := frozen_of_heap HF.out.z 1
    have fz2 := frozen_of_heap HF.out.z 2
    have fz3 := frozen_of_heap HF.out.z 3
    have fz4 := frozen_of_heap HF.out.z 4
    simp at hq2 hd0 hd1 hd2 hd3 hd4 hz0 hz1 hz2 hz3 hz4
    go_wp2_with fail
    refine (contains_no s 50 102 hs Hn1.out _).mono ?_
    rintro e w' ⟨rfl, rfl⟩
    go_wp2_with fail
    refine (contains_no s 50 70 hs Hn2.out _).mono ?_
    rintro e w' ⟨rfl, rfl⟩
    go_wp2_with fail
    refine (contains_yes s 53 99 hs Hy.out _).mono ?_
    rintro e w' ⟨rfl, rfl⟩
    go_wp2
    go_region
    go_wp2
    obtain ⟨hW, hB⟩ := HF.out.done5 (.string b) (.slice none 0 0) (.int .i32 x) (.int .i32 y) (.bool n)
    refine bodyPost_ret (v := .tuple #[.string s, .int .u8 7, .agg #[.string b, .slice none 0 0, .int .i32 x, .int .i32 y, .bool n]]) ?_ rfl ⟨rfl, hB⟩
    exact (results_ttc (t := 8) (u := 9) (p := 10) (ty := 36) (by rfl) _ _ _ (w.heap.size + 1 + 1) (.agg #[.string b, .slice none 0 0, .int .i32 x, .int .i32 y, .bool n]) (by rfl) (load36 hW (by rfl))).trans (by rfl))
set_option maxRecDepth 100000 in
set_option maxHeartbeats 2000000 in
theorem post_has4 (s b : ByteArray) (hs : s.size ≤ 1048576) (x y : Int) (n : Bool) (st : Nat) (hst : st = 3 ∨ st = 4 ∨ st = 5) (out : List UInt8) (sl : Bool) (hd : dec (bt s) s.size 0 = some (out, sl)) (hn1 : ¬ Has s 50 102) (hn2 : ¬ Has s 50 70) (hn3 : ¬ Has s 53 99) (hy : Has s 53 67) (w : World) (hw0 : 0 < w.heap.size) (hT : HexTab w) :
    Calls Tryf.prog 13 #[rq, .string s, .int .u8 st, dbg b x y n] w (PostOut s 7 (dbg b x y n) w) := by
  have HT := Lib.hid hT
  clear hT
  have Hd := Lib.hid hd
  have Hn1 := Lib.hid hn1
  have Hn2 := Lib.hid hn2
  have Hn3 := Lib.hid hn3
  have Hy := Lib.hid hy
  clear hd hy hn1 hn2 hn3
  unfold rq dbg
  rcases hst with rfl | rfl | rfl
  all_goals (
    go_enter Tryf.func13, Tryf.ntmps13
    go_wp2_with fail
    have Hf := Lib.hid (Frame.start w #[.string b, .slice none 0 0, .int .i32 x, .int .i32 y, .bool n] #[.string ⟨#[]⟩, .slice none 0 0, .int .i32 0, .int .i32 0, .bool false])
    generalize hw3 : (((w.alloc (.cells #[.pointer none, .pointer none, .pointer none, .int .u8 0] 44)).alloc (.cells #[.string b, .slice none 0 0, .int .i32 x, .int .i32 y, .bool n] 36)).alloc (.cells #[.string ⟨#[]⟩, .slice none 0 0, .int .i32 0, .int .i32 0, .bool false] 36)) = w3 at Hf ⊢
    clear hw3
    refine (pathUnescape_any s hs w3 (HT.out.below Hf.out.bel hw0)).mono ?_
    rintro e w1 ⟨_, h1⟩
    obtain ⟨rfl, hb⟩ := h1 out sl Hd.out
    have HF := Lib.hid (Hf.out.keep hb)
    clear h1 hb
    have hq2 := cell_of_heap HF.out.q 2
    have hd0 := cell_of_heap HF.out.d 0
    have hd1 := cell_of_heap HF.out.d 1
    have hd2 := cell_of_heap HF.out.d 2
    have hd3 := cell_of_heap HF.out.d 3
    have hd4 := cell_of_heap HF.out.d 4
    have hz0 := cell_of_heap HF.out.z 0
    have hz1 := cell_of_heap HF.out.z 1
    have hz2 := cell_of_heap HF.out.z 2
    have hz3 := cell_of_heap HF.out.z 3
    have hz4 := cell_of_heap HF.out.z 4
    have fz0 := frozen_of_heap HF.out.z 0
    have fz1 := frozen_of_heap HF.out.z 1
    have fz2 := frozen_of_heap HF.out.z 2
    have fz3 := frozen_of_heap HF.out.z 3
    have fz4 := frozen_of_heap HF.out.z 4
    simp at hq2 hd0 hd1 hd2 hd3 hd4 hz0 hz1 hz2 hz3 hz4
    go_wp2_with fail
    refine (contains_no s 50 102 hs Hn1.out _).mono ?_
    rintro e w' ⟨rfl, rfl⟩
    go_wp2_with fail
    refine (contains_no s 50 70 hs Hn2.out _).mono ?_
    rintro e w' ⟨rfl, rfl⟩
    go_wp2_with fail
    refine (contains_no s 53 99 hs Hn3.out _).mono ?_
    rintro e w' ⟨rfl, rfl⟩
    go_wp2_with fail
    refine (contains_yes s 53 67 hs Hy.out _).mono ?_
    rintro e w' ⟨rfl, rfl⟩
    go_wp2
    go_region
    go_wp2
    obtain ⟨hW, hB⟩ := HF.out.done5 (.string b) (.slice none 0 0) (.int .i32 x) (.int .i32 y) (.bool n)
    refine bodyPost_ret (v := .tuple #[.string s, .int .u8 7, .agg #[.string b, .slice none 0 0, .int .i32 x, .int .i32 y, .bool n]]) ?_ rfl ⟨rfl, hB⟩
    exact (results_ttc (t := 8) (u := 9) (p := 10) (ty := 36) (by rfl) _ _ _ (w.heap.size + 1 + 1) (.agg #[.string b, .slice none 0 0, .int .i32 x, .int .i32 y, .bool n]) (by rfl) (load36 hW (by rfl))).trans (by rfl))
end Go.Proofs.YtmhjhipldabaoaaFmt
