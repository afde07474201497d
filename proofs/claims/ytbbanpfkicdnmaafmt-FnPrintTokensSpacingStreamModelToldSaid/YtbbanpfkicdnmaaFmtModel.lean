/-
  Proved: contract of zzStreamModel. No statement of the seat stands here.
-/
import Derived.Test.YtbbanpfkicdnmaaFmtParse
import Derived.Deep.LoopGhost
import Derived.Deep.DeepCutAuto
namespace Go.Proofs.YtbbanpfkicdnmaaFmt
open Go.RowKit Go.ChangeAt
set_option linter.unusedSimpArgs false
set_option linter.unusedVariables false
set_option maxRecDepth 100000
def ClOut (o : Nat) (w : World) (e : Ending) (w' : World) : Prop := e = .returned (.int .u8 ((closer o).toNat : Int)) ∧ w = w'
theorem closer14 (o : Nat) (w : World) : Calls Tryf.prog 14 #[.int .u8 (o : Int)] w (ClOut o w) := by
  unfold ClOut closer
  by_cases h : o = 7
  · have e : ((o : Int) == 7) = true := beq_iff_eq.2 (by omega)
    rw [if_pos h]
    clear h
    go_enter Tryf.func14, Tryf.ntmps14
    go_wp2
    go_ret
    exact ⟨rfl, rfl⟩
  · have e : ((o : Int) == 7) = false := beq_eq_false_iff_ne.2 (by omega)
    rw [if_neg h]
    clear h
    go_enter Tryf.func14, Tryf.ntmps14
    go_wp2
    go_ret
    exact ⟨rfl, rfl⟩
theorem RowAt.widen {w w1 wr : World} {vo : Option Addr} {L vc : Nat} {out : List UInt8} (h : RowAt w1 wr vo L vc out) (hc : Chg Nowhere w w1) : RowAt w wr vo L vc out := by
  refine ⟨h.len, ?_, hc.trans h.chg (fun _ _ h => h)⟩
  obtain ⟨h1, h2⟩ := h.own
  refine ⟨h1, h2.imp id ?_⟩
  rintro ⟨g, cap, cur, e1, e2, e3⟩
  exact ⟨g, cap, cur, e1, Nat.le_trans hc.size e2, e3⟩
/-- The stack's bytes, the bottom first. -/
def stB (st : List Nat) : List UInt8 := st.reverse.map UInt8.ofNat
theorem stB_len (st : List Nat) : (stB st).length = st.length := by simp [stB]
theorem stB_cons (o : Nat) (st : List Nat) : stB (o :: st) = stB st ++ [UInt8.ofNat o] := by simp [stB]
/-- The two rows of the model: what is written, and the stack. -/
structure Two (w wr : World) (vo : Option Addr) (Lo co : Nat) (out : List UInt8) (vs : Option Addr) (Ls cs : Nat) (st : List Nat) : Prop where
  o : RowAt w wr vo Lo co out
  s : RowAt w wr vs Ls cs (stB st)
  dj : ∀ k, InRow vo k → ¬ InRow vs k
theorem Two.write {w wr w1 w' : World} {vo vo' vs : Option Addr} {Lo co co' Ls cs : Nat} {out new : List UInt8} {st : List Nat} (k : Nat) (hk : new.length = k) (h : Two w wr vo Lo co out vs Ls cs st) (h1 : Chg Nowhere wr w1)
    (hown : w'.ownsRow w.heap.size 5 1 (.slice vo' (Lo + k) co') (Lo + k) (Lib.byteCells out ++ Lib.byteCells new)) (hc : Chg (InRow vo) w1 w') (hf : vo' = vo ∨ vo' = some ⟨w1.heap.size, 0, none⟩) : Two w w' vo' (Lo + k) co' (out ++ new) vs Ls cs st := by
  have h2 := RowAt.more k hk h.o h1 hown hc
  have his := inRow_own h.s.own
  refine ⟨h2, ⟨h.s.len, ?_, h2.chg⟩, ?_⟩
  · refine hc.owns (h1.owns h.s.own (fun _ _ h => h)) fun j hj hs => h.dj j hs ?_
    rcases ownsRow_addr h.s.own with ⟨e, _⟩ | ⟨g, e, _⟩
    · subst e; simp [Value.ownBlock] at hj
    · subst e; simp [Value.ownBlock] at hj; exact ⟨_, rfl, hj⟩
  · intro j hj hs
    rcases hf with rfl | rfl
    · exact h.dj j hj hs
    · obtain ⟨x, hx, rfl⟩ := hj
      injection hx with hx
      subst hx
      have := (his _ hs).2
      have := h1.size
      simp at *
      omega
theorem Two.swap {w wr : World} {vo vs : Option Addr} {Lo co Ls cs : Nat} {out : List UInt8} {st : List Nat} (h : Two w wr vo Lo co out vs Ls cs st) : ∀ k, InRow vs k → ¬ InRow vo k := fun k h1 h2 => h.dj k h2 h1
theorem Two.push {w wr w1 w' : World} {vo vs vs' : Option Addr} {Lo co cs cs' Ls : Nat} {out : List UInt8} {st : List Nat} (op : Nat) (h : Two w wr vo Lo co out vs Ls cs st) (h1 : Chg Nowhere wr w1)
    (hown : w'.ownsRow w.heap.size 5 1 (.slice vs' (Ls + 1) cs') (Ls + 1) (Lib.byteCells (stB st) ++ Lib.byteCells [UInt8.ofNat op])) (hc : Chg (InRow vs) w1 w') (hf : vs' = vs ∨ vs' = some ⟨w1.heap.size, 0, none⟩) : Two w w' vo Lo co out vs' (Ls + 1) cs' (op :: st) := by
  have h2 := RowAt.more (new := [UInt8.ofNat op]) 1 rfl h.s h1 hown hc
  rw [← stB_cons] at h2
  have hio := inRow_own h.o.own
  refine ⟨⟨h.o.len, ?_, h2.chg⟩, h2, ?_⟩
  · refine hc.owns (h1.owns h.o.own (fun _ _ h => h)) fun j hj hs => h.dj j ?_ hs
    rcases ownsRow_addr h.o.own with ⟨e, _⟩ | ⟨g, e, _⟩
    · subst e; simp [Value.ownBlock] at hj
    · subst e; simp [Value.ownBlock] at hj; exact ⟨_, rfl, hj⟩
  · intro j hj hs
    rcases hf with rfl | rfl
    · exact h.dj j hj hs
    · obtain ⟨x, hx, rfl⟩ := hs
      injection hx with hx
      subst hx
      have := (hio _ hj).2
      have := h1.size
      simp at *
      omega
theorem RowAt.cap {w wr : World} {vo : Option Addr} {L vc : Nat} {out : List UInt8} (h : RowAt w wr vo L vc out) : L ≤ vc := by
  rcases h.own.2 with ⟨e, h2⟩ | ⟨g, cap, cur, e, _, _, h3, _⟩
  · injection e with e1 e2 e3; omega
  · injection e with e1 e2 e3; omega
theorem RowAt.short {w wr : World} {vo : Option Addr} {L vc : Nat} {out : List UInt8} {x : UInt8} (h : RowAt w wr vo (L + 1) vc (out ++ [x])) : RowAt w wr vo L vc out := by
  have hl := h.len
  simp at hl
  refine ⟨hl, ?_, h.chg⟩
  rcases h.own.2 with ⟨e, h2⟩ | ⟨g, cap, cur, e, e1, e2, h3, h4, h5, h6⟩
  · omega
  · injection e with a1 a2 a3
    refine ⟨by simp [Lib.byteCells, hl], .inr ⟨g, cap, cur, by rw [a1, a3], e1, e2, by omega, h4, h5, ?_⟩⟩
    have h7 := congrArg (List.take (L * 1)) h6
    rw [List.take_take, Nat.min_eq_left (by omega)] at h7
    rw [h7]
    have : Lib.byteCells (out ++ [x]) = Lib.byteCells out ++ Lib.byteCells [x] := by simp [Lib.byteCells]
    rw [this, List.take_append_of_le_length (by simp [Lib.byteCells, hl]), List.take_of_length_le (by simp [Lib.byteCells, hl])]
theorem Two.pop {w wr : World} {vo vs : Option Addr} {Lo co cs Ls : Nat} {out : List UInt8} {st : List Nat} {op : Nat} (h : Two w wr vo Lo co out vs (Ls + 1) cs (op :: st)) : Two w wr vo Lo co out vs Ls cs st :=
  ⟨h.o, by have := h.s; rw [stB_cons] at this; exact this.short, h.dj⟩
theorem Two.top {w wr : World} {vo vs : Option Addr} {Lo co cs Ls : Nat} {out : List UInt8} {st : List Nat} {op : Nat} (h : Two w wr vo Lo co out vs (Ls + 1) cs (op :: st)) (hop : op < 256) : ∃ g, vs = some ⟨g, 0, none⟩ ∧ g < wr.heap.size ∧ wr.cell? ⟨g, Ls, none⟩ = some (.int .u8 (op : Int)) := by
  have hl := h.s.len
  rw [stB_len] at hl
  simp at hl
  rcases ownsRow_addr h.s.own with ⟨e, h2⟩ | ⟨g, e, h1, h2⟩
  · omega
  · subst e
    refine ⟨g, rfl, h2, ?_⟩
    have := h.s.own.cells (g := g) rfl Ls (.int .u8 (op : Int)) (by
      rw [stB_cons]
      have h3 : (UInt8.ofNat op).toNat = op := by rw [UInt8.toNat_ofNat']; omega
      have h4 : Lib.byteCells (stB st ++ [UInt8.ofNat op]) = Lib.byteCells (stB st) ++ [.int .u8 (op : Int)] := by simp [Lib.byteCells, h3]
      rw [h4, List.getElem?_append_right (by simp [Lib.byteCells, stB_len, hl]), show Ls - (Lib.byteCells (stB st)).length = 0 by simp [Lib.byteCells, stB_len, hl]]
      rfl)
    rw [add_cell] at this
    simpa using this
def SOut (l : List UInt8) (w : World) (e : Ending) (w' : World) : Prop :=
  ∃ vo vc X r, run ⟨[], [], false⟩ l = (X, r) ∧ e = .returned (.tuple #[.slice vo X.length vc, .bool r]) ∧ RowAt w w' vo X.length vc X
theorem take_step (l : List UInt8) (k : Nat) (h : k < l.length) : ∃ b, b.toNat = byteOf l k ∧ ∀ s, (l.take (k + 1)).foldl step s = step ((l.take k).foldl step s) b :=
  ⟨l[k], by unfold byteOf; rw [getD_of_lt h], fun s => by rw [List.take_add_one, List.getElem?_eq_getElem h, Option.toList_some, List.foldl_append]; rfl⟩
theorem make22' (n : Nat) (hn : n ≤ 1000000) (W : World) : (Instr.makeSlice 22 (.int .i64 0) (.int .i64 (n : Int))).run Tryf.prog W = .ok (.slice (some ⟨W.heap.size, 0, none⟩) 0 n) (W.alloc (.cells (madeCells #[.int .u8 0] n) 5)) := by
  obtain ⟨i0, hi, hz0, hz1, hz2⟩ := info_parts info5
  have h := run_make (P := Tryf.prog) W 22 5 i0 _ Tryf.underlying22 hi hz0 .i64 .i64 0 n (by omega) (by omega) (by rw [hz2]; omega) (by omega)
  rw [h, hz1]
  simp [Value.cells]
theorem make5n (n : Nat) (hn : n ≤ 100000) (W : World) : (Instr.makeSlice 22 (.int .i64 0) (.int .i64 (5 * (n : Int) + 8))).run Tryf.prog W = .ok (.slice (some ⟨W.heap.size, 0, none⟩) 0 (5 * n + 8)) (W.alloc (.cells (madeCells #[.int .u8 0] (5 * n + 8)) 5)) := by
  have h := make22' (5 * n + 8) (by omega) W
  rw [show ((5 * n + 8 : Nat) : Int) = 5 * (n : Int) + 8 by omega] at h
  exact h
theorem two_start (w : World) (p q : Nat) (hp : p ≤ 10000000) (hq : q ≤ 10000000) : Two w ((w.alloc (.cells (madeCells #[.int .u8 0] p) 5)).alloc (.cells (madeCells #[.int .u8 0] q) 5)) (some ⟨w.heap.size, 0, none⟩) 0 p [] (some ⟨w.heap.size + 1, 0, none⟩) 0 q [] := by
  have h1 := RowAt.start w p (by unfold maxLen; omega)
  have h2 := (RowAt.start (w.alloc (.cells (madeCells #[.int .u8 0] p) 5)) q (by unfold maxLen; omega)).widen ((Chg.refl Nowhere w).alloc _)
  have e : (w.alloc (.cells (madeCells #[.int .u8 0] p) 5)).heap.size = w.heap.size + 1 := by simp
  rw [e] at h2
  refine ⟨⟨h1.len, h1.own.alloc _, h2.chg⟩, h2, ?_⟩
  rintro k ⟨x, hx, rfl⟩ ⟨y, hy, hxy⟩
  injection hx with hx
  injection hy with hy
  subst hx hy
  simp at hxy
set_option maxHeartbeats 64000000 in
theorem stream8 (a : Option Addr) (c n : Nat) (l : List UInt8) (w : World) (HN : Hid (n = l.length)) (hn : n ≤ 65536) (HR : Hid (Reads w a n (byteAt l))) :
    Calls Tryf.prog 8 #[.slice a n c] w (SOut l w) := by
  have hm1 := make5n n (by omega)
  have hm2 := make22' n (by omega)
  have Ht0 := Lib.hid (two_start w (5 * n + 8) n (by omega) (by omega))
  go_enter Tryf.func8, Tryf.ntmps8
  go_wp2_with fail
  clear hm1 hm2
  go_loopg [4, 5, 6, 7] n (fun gk s4 s5 s6 s7 wr => ∃ k : Nat, ∃ vo Lo co vs Ls cs so ss p, gk = n - k ∧ k ≤ n ∧ s7 = .int .i64 (k : Int) ∧ s4 = .slice vo Lo co ∧ s5 = .slice vs Ls cs ∧ s6 = .bool p ∧ Lo ≤ 8 * k ∧ Ls ≤ k ∧ (⟨so, ss, p⟩ : St) = (l.take k).foldl step ⟨[], [], false⟩ ∧ Two w wr vo Lo co so vs Ls cs ss ∧ ∀ x ∈ ss, x < 256)
  case atStart => exact ⟨0, _, _, _, _, _, _, [], [], false, rfl, by omega, rfl, rfl, rfl, rfl, by omega, by omega, rfl, Ht0.out, by simp⟩
  case round =>
    obtain ⟨k, vo, Lo, co, vs, Ls, cs, so, ss, p, hgk, hk, rfl, rfl, rfl, rfl, hlo, hls, hst, htw, hsm⟩ := hrel
    obtain ⟨i0, hi, hz0, hz1, hz2⟩ := info_parts info5
    have Hgk := Lib.hid hgk
    have Hst := Lib.hid hst
    have Hsm := Lib.hid hsm
    have Htw := Lib.hid htw
    have hsr := htw.o.chg.size
    have hcr := htw.o.chg
    have hsl := htw.s.len
    rw [stB_len] at hsl
    have Hsl := Lib.hid hsl
    have hcap := htw.s.cap
    clear hgk hst hsm htw hsl
    by_cases hlt : k < n
    · rcases HR.out with h0 | ⟨g, o, hga, hR1⟩
      · omega
      have hc := hcr.cell (hR1 k hlt) (fun h => h)
      subst hga
      clear hR1 hcr
      unfold byteAt at hc
      obtain ⟨bb, hbb, hstep⟩ := take_step l k (by have := HN.out; omega)
      obtain ⟨by_, hby⟩ : ∃ y, y = byteOf l k := ⟨_, rfl⟩
      have hb256 : by_ < 256 := by rw [hby]; exact byteOf_lt l k
      rw [← hby] at hc hbb
      have Hbb := Lib.hid hbb
      have Hstep : Hid ((l.take (k + 1)).foldl step ⟨[], [], false⟩ = step ⟨so, ss, p⟩ bb) := Lib.hid (by rw [hstep, ← Hst.out])
      clear hbb hstep hby
      have hx0 : (0 : Int) ≤ (k : Int) := by omega
      have hx1 : (k : Int) < (n : Int) := by omega
      obtain ⟨op, hop⟩ : ∃ op, op = by_ % 8 := ⟨_, rfl⟩
      obtain ⟨sel, hsel⟩ : ∃ sel, sel = by_ / 8 := ⟨_, rfl⟩
      have hs256 : sel < 256 := by omega
      have m1 : Int.tmod (by_ : Int) 8 = (op : Int) := by rw [Int.tmod_eq_emod_of_nonneg (by omega)]; omega
      have m2 : (by_ : Int) % 8 = (op : Int) := by omega
      have m3 : Int.tdiv (by_ : Int) 8 = (sel : Int) := by rw [Int.tdiv_eq_ediv_of_nonneg (by omega)]; omega
      have m4 : (by_ : Int) / 8 = (sel : Int) := by omega
      have h8 : op = 2 ∨ op = 5 ∨ (op ≠ 2 ∧ op ≠ 5 ∧ (op = 0 ∨ op = 1 ∨ op = 6 ∨ op = 3 ∨ op = 4 ∨ op = 7)) := by omega
      have Hop := Lib.hid hop
      have Hsel := Lib.hid hsel
      clear hop hsel
      rcases h8 with rfl | rfl | ⟨ho2, ho5, h6⟩
      · go_wp2_with fail
        go_roundg (n - (k + 1))
        case measure => have := Hgk.out; omega
        case rel => exact ⟨k + 1, vo, Lo, co, vs, Ls, cs, so, ss, true, rfl, by omega, by go_num, rfl, rfl, rfl, by omega, by omega, by rw [Hstep.out]; simp [step, Hbb.out, ← Hop.out], Htw.out, Hsm.out⟩
      · cases ss with
        | nil =>
          obtain rfl : Ls = 0 := by have := Hsl.out; simpa using this
          go_wp2_with fail
          go_roundg (n - (k + 1))
          case measure => have := Hgk.out; omega
          case rel => exact ⟨k + 1, vo, Lo, co, vs, 0, cs, so, [], p, rfl, by omega, by go_num, rfl, rfl, rfl, by omega, by omega, by rw [Hstep.out]; simp [step, Hbb.out, ← Hop.out], Htw.out, by simp⟩
        | cons o2 st =>
          obtain ⟨Lt, hLt⟩ : ∃ Lt, Lt = st.length := ⟨_, rfl⟩
          obtain rfl : Ls = Lt + 1 := by have := Hsl.out; simp at this; omega
          have HLt := Lib.hid hLt
          clear hLt
          have hxz : ((Lt : Int) + 1 == 0) = false := beq_eq_false_iff_ne.2 (by omega)
          have ho256 : o2 < 256 := Hsm.out o2 (by simp)
          cases p
          · obtain ⟨gs, rfl, hgs, htop⟩ := Htw.out.top ho256
            go_wp2_with fail
            refine (closer14 o2 wr).mono ?_
            rintro ey wy ⟨rfl, rfl⟩
            go_wp2_with (at_builtin; go_loud (refine wpList_append_fresh _ rfl (.tmp 45) (.tmp 53) 22 rfl w.heap.size 5 i0 _ 1 1 Tryf.underlying22 hi hz0 hz1 hz2 rfl (by decide) vo (Lo) co _ rfl (Htw.out.o.own.alloc _) (some ⟨wr.heap.size, 0, none⟩) 1 1 (Lib.byteCells [closer o2]) rfl rfl (by simp) (newBytes wr [closer o2] _ (by simp)) (oneBytes _) (by unfold maxLen; omega) (by omega) (by simp; omega) ?_; intro vob cob wb hown1 hg1 hf1; have Htwb := Lib.hid (Two.write (new := [closer o2]) 1 rfl Htw.out ((Chg.refl Nowhere wr).alloc _) hown1 hg1 (by simpa using hf1)); have hsb := Htwb.out.o.chg.size; clear hown1 hg1 hf1))
            go_roundg (n - (k + 1))
            case measure => have := Hgk.out; omega
            case rel => exact ⟨k + 1, vob, Lo + 1, cob, _, Lt, cs, (so ++ [closer o2]), st, false, rfl, by omega, by go_num, rfl, rfl, rfl, by omega, by omega, by rw [Hstep.out]; simp [step, Hbb.out, ← Hop.out, sp], Htwb.out.pop, fun x hx => Hsm.out x (by simp [hx])⟩
          · obtain ⟨gs, rfl, hgs, htop⟩ := Htw.out.top ho256
            go_wp2_with (at_builtin; go_loud (refine wpList_append_fresh _ rfl (.tmp 42) (.tmp 43) 22 rfl w.heap.size 5 i0 _ 1 1 Tryf.underlying22 hi hz0 hz1 hz2 rfl (by decide) vo (Lo) co _ rfl (Htw.out.o.own.alloc _) (some ⟨wr.heap.size, 0, none⟩) 1 1 (Lib.byteCells [32]) rfl rfl (by simp) (newBytes wr [32] _ (by simp)) (oneBytes _) (by unfold maxLen; omega) (by omega) (by simp; omega) ?_; intro voa coa wa hown1 hg1 hf1; have Htwa := Lib.hid (Two.write (new := [32]) 1 rfl Htw.out ((Chg.refl Nowhere wr).alloc _) hown1 hg1 (by simpa using hf1)); have hsa := Htwa.out.o.chg.size; obtain ⟨gs2, hgs2, hgl2, htop2⟩ := Htwa.out.top ho256; injection hgs2 with hgs2; injection hgs2 with hgs2; subst hgs2; clear hown1 hg1 hf1))
            refine (closer14 o2 wa).mono ?_
            rintro ey wy ⟨rfl, rfl⟩
            go_wp2_with (at_builtin; go_loud (refine wpList_append_fresh _ rfl (.tmp 45) (.tmp 53) 22 rfl w.heap.size 5 i0 _ 1 1 Tryf.underlying22 hi hz0 hz1 hz2 rfl (by decide) voa (Lo + 1) coa _ rfl (Htwa.out.o.own.alloc _) (some ⟨wa.heap.size, 0, none⟩) 1 1 (Lib.byteCells [closer o2]) rfl rfl (by simp) (newBytes wa [closer o2] _ (by simp)) (oneBytes _) (by unfold maxLen; omega) (by omega) (by simp; omega) ?_; intro vob cob wb hown1 hg1 hf1; have Htwb := Lib.hid (Two.write (new := [closer o2]) 1 rfl Htwa.out ((Chg.refl Nowhere wa).alloc _) hown1 hg1 (by simpa using hf1)); have hsb := Htwb.out.o.chg.size; clear hown1 hg1 hf1))
            go_roundg (n - (k + 1))
            case measure => have := Hgk.out; omega
            case rel => exact ⟨k + 1, vob, Lo + 1 + 1, cob, _, Lt, cs, (so ++ [32] ++ [closer o2]), st, false, rfl, by omega, by go_num, rfl, rfl, rfl, by omega, by omega, by rw [Hstep.out]; simp [step, Hbb.out, ← Hop.out, sp], Htwb.out.pop, fun x hx => Hsm.out x (by simp [hx])⟩
      · have e2 : ((op : Int) == 2) = false := beq_eq_false_iff_ne.2 (by omega)
        have e5 : ((op : Int) == 5) = false := beq_eq_false_iff_ne.2 (by omega)
        have H6 := Lib.hid h6
        clear ho2 ho5 h6
        go_upto_if 60 with fail
        go_cut [4] (fun c4 wx => ∃ vo Lo2 co, c4 = .slice vo Lo2 co ∧ Lo2 ≤ 8 * k + 1 ∧ wr.heap.size ≤ wx.heap.size ∧ Two w wx vo Lo2 co (so ++ sp p) vs Ls cs ss)
        case first =>
          cases p
          · go_wp2_with fail
            go_meet
            case rel => exact ⟨vo, Lo, co, rfl, by omega, Nat.le_refl _, by simpa [sp] using Htw.out⟩
          · go_wp2_with (at_builtin; go_loud (refine wpList_append_fresh _ rfl (.tmp 61) (.tmp 62) 22 rfl w.heap.size 5 i0 _ 1 1 Tryf.underlying22 hi hz0 hz1 hz2 rfl (by decide) vo (Lo) co _ rfl (Htw.out.o.own.alloc _) (some ⟨wr.heap.size, 0, none⟩) 1 1 (Lib.byteCells [32]) rfl rfl (by simp) (newBytes wr [32] _ (by simp)) (oneBytes _) (by unfold maxLen; omega) (by omega) (by simp; omega) ?_; intro voa coa wa hown1 hg1 hf1; have Htwa := Lib.hid (Two.write (new := [32]) 1 rfl Htw.out ((Chg.refl Nowhere wr).alloc _) hown1 hg1 (by simpa using hf1)); have hsa := Htwa.out.o.chg.size; have hsb := hg1.size; clear hown1 hg1 hf1))
            go_meet
            case rel => exact ⟨voa, Lo + 1, coa, rfl, by omega, by simp at hsb; omega, by simpa [sp] using Htwa.out⟩
        case rest =>
        obtain ⟨vt, Lt, ct, rfl, hlt1, hwx, htx⟩ := hcut
        have Htx := Lib.hid htx
        have hsx := htx.o.chg.size
        have htsz := txt_size sel
        have hfsz := ftxt_size sel
        clear htx
        rcases H6.out with rfl | rfl | rfl | rfl | rfl | rfl
        · go_wp2_with fail
          refine (text11 sel hs256 wc).mono ?_
          rintro ey wy ⟨rfl, rfl⟩
          go_wp2_with (at_builtin; go_loud (refine wpList_append_str_fresh _ rfl (.tmp 66) (.tmp 68) 22 9 rfl w.heap.size 5 i0 Tryf.underlying22 Tryf.underlying9 hi hz0 hz1 hz2 vt (Lt) ct _ rfl Htx.out.o.own (txt sel) rfl (by unfold maxLen; omega) (by omega) (by omega) ?_; intro vob cob wb hown1 hg1 hf1; have Htwb := Lib.hid (Two.write (new := ((txt sel)).data.toList) ((txt sel)).size (by rw [Array.length_toList]; rfl) Htx.out (Chg.refl Nowhere _) (by simpa [Lib.byteCells, Lib.strCells] using hown1) hg1 hf1); have hsb := Htwb.out.o.chg.size; clear hown1 hg1 hf1))
          go_roundg (n - (k + 1))
          case measure => have := Hgk.out; omega
          case rel => exact ⟨k + 1, vob, _, cob, vs, Ls, cs, _, ss, false, rfl, by omega, by go_num, rfl, rfl, rfl, by omega, by omega, by rw [Hstep.out]; simp only [step, Hbb.out, ← Hop.out, ← Hsel.out, ltxt, gtxt, opens, reduceIte, Nat.reduceEqDiff, List.append_nil, false_or, or_false, or_self, true_or, or_true, if_true, if_false, List.append_assoc]; rfl, by have := Htwb.out; simp only [List.append_assoc] at this; exact this, Hsm.out⟩
        · go_wp2_with (at_builtin; go_loud (refine wpList_append_fresh _ rfl (.tmp 72) (.tmp 73) 22 rfl w.heap.size 5 i0 _ 1 1 Tryf.underlying22 hi hz0 hz1 hz2 rfl (by decide) vt (Lt) ct _ rfl (Htx.out.o.own.alloc _) (some ⟨wc.heap.size, 0, none⟩) 1 1 (Lib.byteCells [44]) rfl rfl (by simp) (newBytes wc [44] _ (by simp)) (oneBytes _) (by unfold maxLen; omega) (by omega) (by simp; omega) ?_; intro vob cob wb hown1 hg1 hf1; have Htwb := Lib.hid (Two.write (new := [44]) 1 rfl Htx.out ((Chg.refl Nowhere wc).alloc _) hown1 hg1 (by simpa using hf1)); have hsb := Htwb.out.o.chg.size; clear hown1 hg1 hf1))
          go_roundg (n - (k + 1))
          case measure => have := Hgk.out; omega
          case rel => exact ⟨k + 1, vob, _, cob, vs, Ls, cs, _, ss, false, rfl, by omega, by go_num, rfl, rfl, rfl, by omega, by omega, by rw [Hstep.out]; simp only [step, Hbb.out, ← Hop.out, ← Hsel.out, ltxt, gtxt, opens, reduceIte, Nat.reduceEqDiff, List.append_nil, false_or, or_false, or_self, true_or, or_true, if_true, if_false, List.append_assoc]; rfl, by have := Htwb.out; simp only [List.append_assoc] at this; exact this, Hsm.out⟩
        · go_wp2_with (at_builtin; go_loud (refine wpList_append_fresh _ rfl (.tmp 77) (.tmp 78) 22 rfl w.heap.size 5 i0 _ 1 1 Tryf.underlying22 hi hz0 hz1 hz2 rfl (by decide) vt (Lt) ct _ rfl (Htx.out.o.own.alloc _) (some ⟨wc.heap.size, 0, none⟩) 1 1 (Lib.byteCells [42]) rfl rfl (by simp) (newBytes wc [42] _ (by simp)) (oneBytes _) (by unfold maxLen; omega) (by omega) (by simp; omega) ?_; intro vob cob wb hown1 hg1 hf1; have Htwb := Lib.hid (Two.write (new := [42]) 1 rfl Htx.out ((Chg.refl Nowhere wc).alloc _) hown1 hg1 (by simpa using hf1)); have hsb := Htwb.out.o.chg.size; clear hown1 hg1 hf1))
          go_roundg (n - (k + 1))
          case measure => have := Hgk.out; omega
          case rel => exact ⟨k + 1, vob, _, cob, vs, Ls, cs, _, ss, false, rfl, by omega, by go_num, rfl, rfl, rfl, by omega, by omega, by rw [Hstep.out]; simp only [step, Hbb.out, ← Hop.out, ← Hsel.out, ltxt, gtxt, opens, reduceIte, Nat.reduceEqDiff, List.append_nil, false_or, or_false, or_self, true_or, or_true, if_true, if_false, List.append_assoc]; rfl, by have := Htwb.out; simp only [List.append_assoc] at this; exact this, Hsm.out⟩
        · go_wp2_with fail
          refine (ftext12 sel hs256 wc).mono ?_
          rintro ey wy ⟨rfl, rfl⟩
          go_wp2_with (at_builtin; first | (refine wpList_append_str_fresh _ rfl (.tmp 82) (.tmp 84) 22 9 rfl w.heap.size 5 i0 Tryf.underlying22 Tryf.underlying9 hi hz0 hz1 hz2 vt (Lt) ct _ rfl Htx.out.o.own (ftxt sel) rfl (by unfold maxLen; omega) (by omega) (by omega) ?_; intro vob cob wb hown1 hg1 hf1; have Htwb := Lib.hid (Two.write (new := ((ftxt sel)).data.toList) ((ftxt sel)).size (by rw [Array.length_toList]; rfl) Htx.out (Chg.refl Nowhere _) (by simpa [Lib.byteCells, Lib.strCells] using hown1) hg1 hf1); have hsb := Htwb.out.o.chg.size; clear hown1 hg1 hf1) | (refine wpList_append_fresh _ rfl (.tmp 86) (.tmp 87) 22 rfl w.heap.size 5 i0 _ 1 1 Tryf.underlying22 hi hz0 hz1 hz2 rfl (by decide) vob (Lt + (ftxt sel).size) cob _ rfl (Htwb.out.o.own.alloc _) (some ⟨wb.heap.size, 0, none⟩) 1 1 (Lib.byteCells [40]) rfl rfl (by simp) (newBytes wb [40] _ (by simp)) (oneBytes _) (by unfold maxLen; omega) (by omega) (by simp; omega) ?_; intro vod cod wd hown1 hg1 hf1; have Htwd := Lib.hid (Two.write (new := [40]) 1 rfl Htwb.out ((Chg.refl Nowhere wb).alloc _) hown1 hg1 (by simpa using hf1)); have hsd := Htwd.out.o.chg.size; clear hown1 hg1 hf1) | (refine wpList_append_fresh _ rfl (.tmp 89) (.tmp 91) 22 rfl w.heap.size 5 i0 _ 1 1 Tryf.underlying22 hi hz0 hz1 hz2 rfl (by decide) vs Ls cs _ rfl (Htwd.out.s.own.alloc _) (some ⟨wd.heap.size, 0, none⟩) 1 1 (Lib.byteCells [3]) rfl rfl (by simp) (newBytes wd [3] _ (by simp)) (oneBytes _) (by unfold maxLen; omega) (by omega) (by simp; omega) ?_; intro vse cse we hown1 hg1 hf1; have Htwe := Lib.hid (Two.push 3 Htwd.out ((Chg.refl Nowhere wd).alloc _) hown1 hg1 (by simpa using hf1)); have hse := Htwe.out.o.chg.size; clear hown1 hg1 hf1))
          go_roundg (n - (k + 1))
          case measure => have := Hgk.out; omega
          case rel => exact ⟨k + 1, vod, _, cod, vse, Ls + 1, cse, _, (3 :: ss), false, rfl, by omega, by go_num, rfl, rfl, rfl, by omega, by omega, by rw [Hstep.out]; simp only [step, Hbb.out, ← Hop.out, ← Hsel.out, ltxt, gtxt, opens, reduceIte, Nat.reduceEqDiff, List.append_nil, false_or, or_false, or_self, true_or, or_true, if_true, if_false, List.append_assoc]; rfl, by have := Htwe.out; simp only [List.append_assoc] at this; exact this, fun x hx => by rcases List.mem_cons.1 hx with rfl | hx; (decide); exact Hsm.out x hx⟩
        · go_wp2_with (at_builtin; first | (refine wpList_append_fresh _ rfl (.tmp 95) (.tmp 96) 22 rfl w.heap.size 5 i0 _ 1 1 Tryf.underlying22 hi hz0 hz1 hz2 rfl (by decide) vt (Lt) ct _ rfl (Htx.out.o.own.alloc _) (some ⟨wc.heap.size, 0, none⟩) 1 1 (Lib.byteCells [40]) rfl rfl (by simp) (newBytes wc [40] _ (by simp)) (oneBytes _) (by unfold maxLen; omega) (by omega) (by simp; omega) ?_; intro vod cod wd hown1 hg1 hf1; have Htwd := Lib.hid (Two.write (new := [40]) 1 rfl Htx.out ((Chg.refl Nowhere wc).alloc _) hown1 hg1 (by simpa using hf1)); have hsd := Htwd.out.o.chg.size; clear hown1 hg1 hf1) | (refine wpList_append_fresh _ rfl (.tmp 98) (.tmp 100) 22 rfl w.heap.size 5 i0 _ 1 1 Tryf.underlying22 hi hz0 hz1 hz2 rfl (by decide) vs Ls cs _ rfl (Htwd.out.s.own.alloc _) (some ⟨wd.heap.size, 0, none⟩) 1 1 (Lib.byteCells [4]) rfl rfl (by simp) (newBytes wd [4] _ (by simp)) (oneBytes _) (by unfold maxLen; omega) (by omega) (by simp; omega) ?_; intro vse cse we hown1 hg1 hf1; have Htwe := Lib.hid (Two.push 4 Htwd.out ((Chg.refl Nowhere wd).alloc _) hown1 hg1 (by simpa using hf1)); have hse := Htwe.out.o.chg.size; clear hown1 hg1 hf1))
          go_roundg (n - (k + 1))
          case measure => have := Hgk.out; omega
          case rel => exact ⟨k + 1, vod, _, cod, vse, Ls + 1, cse, _, (4 :: ss), false, rfl, by omega, by go_num, rfl, rfl, rfl, by omega, by omega, by rw [Hstep.out]; simp only [step, Hbb.out, ← Hop.out, ← Hsel.out, ltxt, gtxt, opens, reduceIte, Nat.reduceEqDiff, List.append_nil, false_or, or_false, or_self, true_or, or_true, if_true, if_false, List.append_assoc]; rfl, by have := Htwe.out; simp only [List.append_assoc] at this; exact this, fun x hx => by rcases List.mem_cons.1 hx with rfl | hx; (decide); exact Hsm.out x hx⟩
        · go_wp2_with (at_builtin; first | (refine wpList_append_fresh _ rfl (.tmp 102) (.tmp 103) 22 rfl w.heap.size 5 i0 _ 1 1 Tryf.underlying22 hi hz0 hz1 hz2 rfl (by decide) vt (Lt) ct _ rfl (Htx.out.o.own.alloc _) (some ⟨wc.heap.size, 0, none⟩) 1 1 (Lib.byteCells [91]) rfl rfl (by simp) (newBytes wc [91] _ (by simp)) (oneBytes _) (by unfold maxLen; omega) (by omega) (by simp; omega) ?_; intro vod cod wd hown1 hg1 hf1; have Htwd := Lib.hid (Two.write (new := [91]) 1 rfl Htx.out ((Chg.refl Nowhere wc).alloc _) hown1 hg1 (by simpa using hf1)); have hsd := Htwd.out.o.chg.size; clear hown1 hg1 hf1) | (refine wpList_append_fresh _ rfl (.tmp 105) (.tmp 107) 22 rfl w.heap.size 5 i0 _ 1 1 Tryf.underlying22 hi hz0 hz1 hz2 rfl (by decide) vs Ls cs _ rfl (Htwd.out.s.own.alloc _) (some ⟨wd.heap.size, 0, none⟩) 1 1 (Lib.byteCells [7]) rfl rfl (by simp) (newBytes wd [7] _ (by simp)) (oneBytes _) (by unfold maxLen; omega) (by omega) (by simp; omega) ?_; intro vse cse we hown1 hg1 hf1; have Htwe := Lib.hid (Two.push 7 Htwd.out ((Chg.refl Nowhere wd).alloc _) hown1 hg1 (by simpa using hf1)); have hse := Htwe.out.o.chg.size; clear hown1 hg1 hf1))
          go_roundg (n - (k + 1))
          case measure => have := Hgk.out; omega
          case rel => exact ⟨k + 1, vod, _, cod, vse, Ls + 1, cse, _, (7 :: ss), false, rfl, by omega, by go_num, rfl, rfl, rfl, by omega, by omega, by rw [Hstep.out]; simp only [step, Hbb.out, ← Hop.out, ← Hsel.out, ltxt, gtxt, opens, reduceIte, Nat.reduceEqDiff, List.append_nil, false_or, or_false, or_self, true_or, or_true, if_true, if_false, List.append_assoc]; rfl, by have := Htwe.out; simp only [List.append_assoc] at this; exact this, fun x hx => by rcases List.mem_cons.1 hx with rfl | hx; (decide); exact Hsm.out x hx⟩
    · have hx1 : ¬ (k : Int) < (n : Int) := by omega
      have hke : k = n := by omega
      have Hrun : Hid (run ⟨[], [], false⟩ l = finish ⟨so, ss, p⟩) := Lib.hid (by unfold run; rw [Hst.out, List.take_of_length_le (by have := HN.out; omega)])
      clear hke hcr
      go_upto_if 109 with fail
      go_cut [4] (fun c4 wx => ∃ vo Lo2 co, c4 = .slice vo Lo2 co ∧ Lo2 ≤ 8 * k + 1 ∧ Two w wx vo Lo2 co (so ++ sp p) vs Ls cs ss)
      case first =>
        cases p
        · go_wp2_with fail
          go_meet
          case rel => exact ⟨vo, Lo, co, rfl, by omega, by simpa [sp] using Htw.out⟩
        · go_wp2_with (at_builtin; go_loud (refine wpList_append_fresh _ rfl (.tmp 110) (.tmp 111) 22 rfl w.heap.size 5 i0 _ 1 1 Tryf.underlying22 hi hz0 hz1 hz2 rfl (by decide) vo (Lo) co _ rfl (Htw.out.o.own.alloc _) (some ⟨wr.heap.size, 0, none⟩) 1 1 (Lib.byteCells [32]) rfl rfl (by simp) (newBytes wr [32] _ (by simp)) (oneBytes _) (by unfold maxLen; omega) (by omega) (by simp; omega) ?_; intro voa coa wa hown1 hg1 hf1; have Htwa := Lib.hid (Two.write (new := [32]) 1 rfl Htw.out ((Chg.refl Nowhere wr).alloc _) hown1 hg1 (by simpa using hf1)); have hsa := Htwa.out.o.chg.size; clear hown1 hg1 hf1))
          go_meet
          case rel => exact ⟨voa, Lo + 1, coa, rfl, by omega, by simpa [sp] using Htwa.out⟩
      case rest =>
      obtain ⟨vt, Lt, ct, rfl, hlt1, htx⟩ := hcut
      have Htx := Lib.hid htx
      clear htx
      rename World => wq
      go_upto_region 39 with fail
      go_cut [11] (fun c11 wx => c11 = .bool (p && ss.isEmpty) ∧ wx = wq)
      case first =>
        cases p
        · go_wp2_with fail
          go_meet
          case rel => exact ⟨rfl, rfl⟩
        · cases ss with
          | nil =>
            obtain rfl : Ls = 0 := by have := Hsl.out; simpa using this
            go_wp2_with fail
            go_meet
            case rel => exact ⟨rfl, rfl⟩
          | cons o2 st =>
            have hzz : ((Ls : Int) == 0) = false := beq_eq_false_iff_ne.2 (by have := Hsl.out; simp at this; omega)
            go_wp2_with fail
            go_meet
            case rel => exact ⟨rfl, rfl⟩
      case rest =>
      obtain ⟨rfl, rfl⟩ := hcut
      obtain ⟨fr, hfr⟩ : ∃ fr, fr = (p && ss.isEmpty) := ⟨_, rfl⟩
      rw [← hfr]
      have Hfr := Lib.hid hfr
      clear hfr
      go_wp2_with fail
      go_loopg [4, 5] Ls (fun gk s4 s5 wr => ∃ vo Lo co vs L2 cs so2 st, gk = L2 ∧ s4 = .slice vo Lo co ∧ s5 = .slice vs L2 cs ∧ Lo + L2 ≤ 9 * k + 1 ∧ so ++ sp p ++ ss.map closer = so2 ++ st.map closer ∧ Two w wr vo Lo co so2 vs L2 cs st ∧ ∀ x ∈ st, x < 256)
      case atStart => exact ⟨vt, Lt, ct, vs, Ls, cs, _, ss, rfl, rfl, rfl, by omega, rfl, Htx.out, Hsm.out⟩
      case round =>
        obtain ⟨vo2, Lo2, co2, vs2, L2, cs2, so2, st, hgk2, rfl, rfl, hb2, htxt, htw, hsm2⟩ := hrel
        have Htw2 := Lib.hid htw
        have hs2 := htw.o.chg.size
        have hcap2 := htw.s.cap
        have hl2 := htw.s.len
        rw [stB_len] at hl2
        have Htxt := Lib.hid htxt
        have Hsm2 := Lib.hid hsm2
        have Hgk2 := Lib.hid hgk2
        have Hl2 := Lib.hid hl2
        clear htw htxt hsm2 hgk2 hl2
        cases st with
        | nil =>
          obtain rfl : L2 = 0 := by have := Hl2.out; simpa using this
          go_wp2_with fail
          go_ret2
          have hlen := Htw2.out.o.len
          have ho := Htw2.out.o
          have htt := Htxt.out
          simp only [List.map_nil, List.append_nil] at htt
          refine ⟨vo2, co2, so2, fr, ?_, ?_, ?_⟩
          · rw [Hrun.out]; unfold finish; simp only; rw [htt, Hfr.out]
          · rw [← hlen]; first | rfl | (simp; done)
          · rw [← hlen]; exact ho
        | cons o2 st2 =>
          obtain ⟨Lq, hLq⟩ : ∃ Lq, Lq = st2.length := ⟨_, rfl⟩
          obtain rfl : L2 = Lq + 1 := by have := Hl2.out; simp at this; omega
          clear hLq
          have ho256 : o2 < 256 := Hsm2.out o2 (by simp)
          have hxp : (0 : Int) < (Lq : Int) + 1 := by omega
          obtain ⟨gs, rfl, hgs, htop⟩ := Htw2.out.top ho256
          go_wp2_with fail
          refine (closer14 o2 wr).mono ?_
          rintro ey wy ⟨rfl, rfl⟩
          go_wp2_with (at_builtin; go_loud (refine wpList_append_fresh _ rfl (.tmp 122) (.tmp 130) 22 rfl w.heap.size 5 i0 _ 1 1 Tryf.underlying22 hi hz0 hz1 hz2 rfl (by decide) vo2 (Lo2) co2 _ rfl (Htw2.out.o.own.alloc _) (some ⟨wr.heap.size, 0, none⟩) 1 1 (Lib.byteCells [closer o2]) rfl rfl (by simp) (newBytes wr [closer o2] _ (by simp)) (oneBytes _) (by unfold maxLen; omega) (by omega) (by simp; omega) ?_; intro vob cob wb hown1 hg1 hf1; have Htwb := Lib.hid (Two.write (new := [closer o2]) 1 rfl Htw2.out ((Chg.refl Nowhere wr).alloc _) hown1 hg1 (by simpa using hf1)); have hsb := Htwb.out.o.chg.size; clear hown1 hg1 hf1))
          go_roundg Lq
          case measure => have := Hgk2.out; omega
          case rel => exact ⟨vob, Lo2 + 1, cob, _, Lq, cs2, so2 ++ [closer o2], st2, rfl, rfl, rfl, by omega, by rw [Htxt.out]; simp, Htwb.out.pop, fun x hx => Hsm2.out x (by simp [hx])⟩
end Go.Proofs.YtbbanpfkicdnmaaFmt
