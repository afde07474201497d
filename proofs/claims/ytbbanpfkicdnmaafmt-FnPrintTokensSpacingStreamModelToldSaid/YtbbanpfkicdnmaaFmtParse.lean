/-
  Proved: contract of zzParseTokens. No statement of the seat stands here.
-/
import Derived.Test.YtbbanpfkicdnmaaFmtTree
import Derived.Deep.LoopGhost
namespace Go.Proofs.YtbbanpfkicdnmaaFmt
open Go.RowKit Go.ChangeAt
set_option linter.unusedSimpArgs false
set_option linter.unusedVariables false
set_option maxRecDepth 100000
def FTxtOut (c : Nat) (w : World) (e : Ending) (w' : World) : Prop := e = .returned (.string (ftxt c)) ∧ w = w'
theorem ftext12 (c : Nat) (hc : c < 256) (w : World) : Calls Tryf.prog 12 #[.int .u8 c] w (FTxtOut c w) := by
  have h4 : c % 4 = 0 ∨ c % 4 = 1 ∨ c % 4 = 2 ∨ c % 4 = 3 := by omega
  have ht : Int.tmod (c : Int) 4 = ((c % 4 : Nat) : Int) := by rw [Int.tmod_eq_emod_of_nonneg (by omega)]; omega
  have ht2 : (c : Int) % 4 = ((c % 4 : Nat) : Int) := by omega
  rcases h4 with h | h | h | h
  all_goals (
    have e : ftxt c = ftxt (c % 4) := by unfold ftxt; rw [Nat.mod_mod]
    unfold FTxtOut
    rw [e]
    rw [h] at ht ht2 ⊢
    clear h e
    first | (change Int.tmod (c : Int) 4 = 0 at ht; change (c : Int) % 4 = 0 at ht2) | (change Int.tmod (c : Int) 4 = 1 at ht; change (c : Int) % 4 = 1 at ht2) | (change Int.tmod (c : Int) 4 = 2 at ht; change (c : Int) % 4 = 2 at ht2) | (change Int.tmod (c : Int) 4 = 3 at ht; change (c : Int) % 4 = 3 at ht2)
    go_enter Tryf.func12, Tryf.ntmps12
    go_wp2
    go_ret
    exact ⟨rfl, rfl⟩)
/-- The cells of a row of tokens; what they point to lies in 'ok' blocks. -/
def Kids (W : World) (ok : Nat → Prop) : Ts → List Value → Prop
  | .nil, xs => xs = []
  | .leaf op sel r, xs => (op = 0 ∨ op = 1 ∨ op = 2 ∨ op = 6) ∧ ∃ ys, xs = (cells7 none (ltxt op sel) (lkind op)).toList ++ ys ∧ Kids W ok r ys
  | .node op sel k r, xs => (op = 3 ∨ op = 4 ∨ op = 7) ∧ ∃ ys, (∃ gb kvo ck, xs = (cells7 (some ⟨gb, 0, none⟩) (gtxt op sel) (gkind op)).toList ++ ys ∧ ok gb ∧ W.cell? ⟨gb, 0, none⟩ = some (.slice kvo k.len ck) ∧ Row W ok kvo k) ∧ Kids W ok r ys
theorem Kids.keep {W W' : World} {ok ok' : Nat → Prop} (h : ∀ a v, ok a.block → W.cell? a = some v → W'.cell? a = some v) (ho : ∀ k, ok k → ok' k) : ∀ (ts : Ts) (xs : List Value), Kids W ok ts xs → Kids W' ok' ts xs := by
  intro ts
  induction ts with
  | nil => intro xs hx; exact hx
  | leaf op sel r ih => exact fun xs ⟨h1, ys, e, h2⟩ => ⟨h1, ys, e, ih ys h2⟩
  | node op sel k r _ ih =>
    rintro xs ⟨h1, ys, ⟨gb, kvo, ck, e, h2, h3, h4⟩, h5⟩
    refine ⟨h1, ys, ⟨gb, kvo, ck, e, ho _ h2, h _ _ h2 h3, ?_⟩, ih ys h5⟩
    rcases h4 with h4 | ⟨g, e1, e2, e3⟩
    · exact .inl h4
    · exact .inr ⟨g, e1, ho _ e2, Mem.keep h ho k g 0 e2 e3⟩
theorem Kids.app {W : World} {ok : Nat → Prop} : ∀ (t u : Ts) (xs ys : List Value), Kids W ok t xs → Kids W ok u ys → Kids W ok (t.app u) (xs ++ ys) := by
  intro t
  induction t with
  | nil => intro u xs ys h1 h2; rw [show xs = [] from h1]; exact h2
  | leaf op sel r ih =>
    rintro u xs ys ⟨h1, zs, e, h2⟩ h3
    exact ⟨h1, zs ++ ys, by rw [e, List.append_assoc], ih u zs ys h2 h3⟩
  | node op sel k r _ ih =>
    rintro u xs ys ⟨h1, zs, ⟨gb, kvo, ck, e, h2⟩, h3⟩ h4
    exact ⟨h1, zs ++ ys, ⟨gb, kvo, ck, by rw [e, List.append_assoc], h2⟩, ih u zs ys h3 h4⟩
theorem Kids.mem {W : World} {ok : Nat → Prop} : ∀ (ts : Ts) (xs : List Value) (g i : Nat), Kids W ok ts xs → (∀ j v, xs[j]? = some v → W.cell? ⟨g, i * 7 + j, none⟩ = some v) → Mem W ok ts g i := by
  have hshift : ∀ (c : Array Value) (ys : List Value) (g i : Nat), c.size = 7 → (∀ j v, (c.toList ++ ys)[j]? = some v → W.cell? ⟨g, i * 7 + j, none⟩ = some v) →
      (∀ q, q < 7 → W.cell? ⟨g, i * 7 + q, none⟩ = c[q]?) ∧ (∀ j v, ys[j]? = some v → W.cell? ⟨g, (i + 1) * 7 + j, none⟩ = some v) := by
    intro c ys g i hc h
    have hl : c.toList.length = 7 := by simpa using hc
    refine ⟨fun q hq => ?_, fun j v hv => ?_⟩
    · have hv : c[q]? = some c[q] := Array.getElem?_eq_getElem (by omega)
      rw [hv]
      refine h q _ ?_
      rw [List.getElem?_append_left (by omega)]
      simp
    · have := h (7 + j) v (by rw [List.getElem?_append_right (by omega), hl, Nat.add_sub_cancel_left]; exact hv)
      rw [show (i + 1) * 7 + j = i * 7 + (7 + j) by omega]
      exact this
  intro ts
  induction ts with
  | nil => intros; trivial
  | leaf op sel r ih =>
    rintro xs g i ⟨h1, ys, e, h2⟩ h3
    subst e
    obtain ⟨a1, a2⟩ := hshift _ ys g i rfl h3
    exact ⟨h1, a1, ih ys g (i + 1) h2 a2⟩
  | node op sel k r _ ih =>
    rintro xs g i ⟨h1, ys, ⟨gb, kvo, ck, e, h2, h3, h4⟩, h5⟩ h6
    subst e
    obtain ⟨a1, a2⟩ := hshift _ ys g i rfl h6
    exact ⟨h1, ⟨gb, kvo, ck, a1, h2, h3, h4⟩, ih ys g (i + 1) h5 a2⟩
/-- A row of tokens made since w0. -/
structure PRow (w0 wr : World) (vo : Option Addr) (vc : Nat) (ts : Ts) : Prop where
  own : ∃ xs, wr.ownsRow w0.heap.size 40 7 (.slice vo ts.len vc) ts.len xs ∧ Kids wr (fun k => w0.heap.size ≤ k ∧ k < wr.heap.size ∧ ¬ InRow vo k) ts xs
  chg : Chg Nowhere w0 wr
theorem PRow.start (w : World) : PRow w w none 0 .nil := ⟨⟨[], World.ownsRow_nil w _ _ _, rfl⟩, Chg.refl _ _⟩
theorem len_app (t u : Ts) : (t.app u).len = t.len + u.len := by
  induction t with
  | nil => simp [Ts.app, Ts.len]
  | leaf o s r ih => simp only [Ts.app, Ts.len, ih]; omega
  | node o s k r _ ih => simp only [Ts.app, Ts.len, ih]; omega
theorem PRow.more {w0 wr w1 w2 : World} {vo vo' : Option Addr} {vc vc' : Nat} {ts u : Ts} {xs new : List Value} (hown0 : wr.ownsRow w0.heap.size 40 7 (.slice vo ts.len vc) ts.len xs) (hk : Kids wr (fun k => w0.heap.size ≤ k ∧ k < wr.heap.size ∧ ¬ InRow vo k) ts xs) (hc0 : Chg Nowhere w0 wr)
    (h1 : Chg Nowhere wr w1) (hu : u.len = 1) (hnew : Kids w1 (fun k => wr.heap.size ≤ k ∧ k < w1.heap.size) u new)
    (hown : w2.ownsRow w0.heap.size 40 7 (.slice vo' (ts.len + 1) vc') (ts.len + 1) (xs ++ new)) (hc : Chg (InRow vo) w1 w2) (hf : vo' = vo ∨ vo' = some ⟨w1.heap.size, 0, none⟩) : PRow w0 w2 vo' vc' (ts.app u) := by
  have hin := inRow_own hown0
  have hs1 := h1.size
  have hs2 := hc.size
  have hnv : ∀ k, k < w1.heap.size → ¬ InRow vo k → ¬ InRow vo' k := by
    intro k h2 h3 h4
    rcases hf with rfl | rfl
    · exact h3 h4
    · obtain ⟨x, hx, rfl⟩ := h4
      injection hx with hx
      subst hx
      simp at h2
  have e : (ts.app u).len = ts.len + 1 := by rw [len_app, hu]
  refine ⟨⟨xs ++ new, by rw [e]; exact hown, Kids.app ts u xs new ?_ ?_⟩, (hc0.trans h1 (fun _ _ h => h)).trans hc fun k hk hs => absurd (hin k hs).1 (by omega)⟩
  · refine Kids.keep (fun a v ha hcell => ?_) (fun k hk => ⟨hk.1, by omega, hnv k (by omega) hk.2.2⟩) ts xs hk
    exact hc.cell (h1.cell hcell (fun h => h)) ha.2.2
  · refine Kids.keep (fun a v ha hcell => ?_) (fun k hk => ⟨by have := hc0.size; omega, by omega, hnv k hk.2 (fun hh => by have := (hin k hh).2; omega)⟩) u new hnew
    exact hc.cell hcell (fun hh => by have := (hin _ hh).2; omega)
/-- A row as the printing reads it. -/
theorem PRow.row {w0 wr : World} {vo : Option Addr} {vc : Nat} {ts : Ts} (h : PRow w0 wr vo vc ts) : Row wr (fun k => w0.heap.size ≤ k ∧ k < wr.heap.size) vo ts := by
  obtain ⟨xs, h1, h2⟩ := h.own
  rcases ownsRow_addr h1 with ⟨e1, e2⟩ | ⟨g, e1, e2, e3⟩
  · left
    cases ts with
    | nil => rfl
    | leaf o s r => simp [Ts.len] at e2
    | node o s k r => simp [Ts.len] at e2
  · right
    subst e1
    refine ⟨g, rfl, ⟨e2, e3⟩, ?_⟩
    have h3 : Kids wr (fun k => w0.heap.size ≤ k ∧ k < wr.heap.size) ts xs := Kids.keep (fun _ _ _ h => h) (fun k hk => ⟨hk.1, hk.2.1⟩) ts xs h2
    refine Kids.mem ts xs g 0 h3 fun j v hv => ?_
    have hc := h1.cells (g := g) rfl j v hv
    rw [add_cell] at hc
    simpa using hc
theorem parse_size {d : Bool} {c r : List UInt8} {ts : Ts} (h : Parses d c ts r) : sz ts + r.length ≤ c.length := by
  induction h with
  | nil d => simp [sz]
  | leaf h k ih => simp only [sz, List.length_cons]; omega
  | close c h => simp [sz]
  | skip h k ih => simp only [List.length_cons]; omega
  | node h k1 k2 ih1 ih2 => simp only [sz, List.length_cons]; omega
theorem drop_cons (l : List UInt8) (q : Nat) (h : q < l.length) : ∃ b, l.drop q = b :: l.drop (q + 1) ∧ b.toNat = byteOf l q := ⟨l[q], List.drop_eq_getElem_cons h, by unfold byteOf; rw [getD_of_lt h]⟩
def POut (l : List UInt8) (d : Bool) (pos : Nat) (w : World) (e : Ending) (w' : World) : Prop :=
  ∃ ts q vo vc, pos ≤ q ∧ q ≤ l.length ∧ e = .returned (.tuple #[.slice vo ts.len vc, .int .i64 (q : Int)]) ∧ Parses d (l.drop pos) ts (l.drop q) ∧ PRow w w' vo vc ts
set_option maxHeartbeats 32000000 in
theorem parse6 (a : Option Addr) (c n : Nat) (l : List UInt8) (HN : Hid (n = l.length)) (hn : n ≤ 65536) : ∀ (fuel pos dp : Nat) (d : Bool) (w : World), Hid (d = decide (0 < dp)) → pos ≤ n → n - pos ≤ fuel → dp ≤ pos → Hid (Reads w a n (byteAt l)) →
    Calls Tryf.prog 6 #[.slice a n c, .int .i64 (pos : Int), .int .i64 (dp : Int)] w (POut l d pos w) := by
  intro fuel
  induction fuel with
  | zero =>
    intro pos dp d w Hd hpos hfu hdp HR
    have Hp0 := Lib.hid (PRow.start w)
    go_enter Tryf.func6, Tryf.ntmps6
    go_wp2_with fail
    go_loopg [1, 8] (n - pos) (fun gk s1 s8 wr => ∃ q : Nat, ∃ vo vc acc, gk = n - q ∧ pos ≤ q ∧ q ≤ n ∧ s1 = .int .i64 (q : Int) ∧ s8 = .slice vo (Ts.len acc) vc ∧ Ts.len acc ≤ q ∧ PRow w wr vo vc acc ∧ ∀ ts q2, Parses d (l.drop q) ts (l.drop q2) → Parses d (l.drop pos) (acc.app ts) (l.drop q2))
    case atStart => exact ⟨pos, none, 0, .nil, rfl, Nat.le_refl _, hpos, rfl, rfl, Nat.zero_le _, Hp0.out, fun ts q2 h => h⟩
    case round =>
      obtain ⟨q, vo, vc, acc, hgk, hq1, hq2, rfl, rfl, hal, hrow, hpar⟩ := hrel
      have Hpar := Lib.hid hpar
      have Hgk := Lib.hid hgk
      obtain ⟨L, hL⟩ : ∃ L, L = acc.len := ⟨_, rfl⟩
      rw [← hL] at hal ⊢
      have HL := Lib.hid hL
      have Hrow := Lib.hid hrow
      have hcr := hrow.chg
      have hsr := hrow.chg.size
      clear hpar hgk hL hrow
      by_cases hlt : q < n
      · omega
      · have hx1 : ¬ (q : Int) < (n : Int) := by omega
        have hqe : q = n := by omega
        have Hqe := Lib.hid hqe
        clear hqe hcr
        go_wp2_with fail
        go_ret2
        refine ⟨acc, q, vo, vc, by omega, by have := HN.out; omega, ?_, ?_, Hrow.out⟩
        · rw [HL.out]; first | rfl | (simp; done)
        · have h5 := Hpar.out .nil q (by rw [List.drop_eq_nil_of_le (by have := HN.out; have := Hqe.out; omega)]; exact Parses.nil _)
          rw [Ts.app_nil] at h5
          exact h5
  | succ fuel ih =>
    intro pos dp d w Hd hpos hfu hdp HR
    have IH := Lib.hid ih
    clear ih
    have Hp0 := Lib.hid (PRow.start w)
    go_enter Tryf.func6, Tryf.ntmps6
    go_wp2_with fail
    go_loopg [1, 8] (n - pos) (fun gk s1 s8 wr => ∃ q : Nat, ∃ vo vc acc, gk = n - q ∧ pos ≤ q ∧ q ≤ n ∧ s1 = .int .i64 (q : Int) ∧ s8 = .slice vo (Ts.len acc) vc ∧ Ts.len acc ≤ q ∧ PRow w wr vo vc acc ∧ ∀ ts q2, Parses d (l.drop q) ts (l.drop q2) → Parses d (l.drop pos) (acc.app ts) (l.drop q2))
    case atStart => exact ⟨pos, none, 0, .nil, rfl, Nat.le_refl _, hpos, rfl, rfl, Nat.zero_le _, Hp0.out, fun ts q2 h => h⟩
    case round =>
      obtain ⟨q, vo, vc, acc, hgk, hq1, hq2, rfl, rfl, hal, hrow, hpar⟩ := hrel
      have Hpar := Lib.hid hpar
      have Hgk := Lib.hid hgk
      obtain ⟨L, hL⟩ : ∃ L, L = acc.len := ⟨_, rfl⟩
      rw [← hL] at hal ⊢
      have HL := Lib.hid hL
      have Hrow := Lib.hid hrow
      have hcr := hrow.chg
      have hsr := hrow.chg.size
      clear hpar hgk hL hrow
      by_cases hlt : q < n
      · have hx1 : (q : Int) < (n : Int) := by omega
        rcases HR.out with h0 | ⟨g, o, hga, hR1⟩
        · omega
        have hc := hcr.cell (hR1 q hlt) (fun h => h)
        have Hcw := Lib.hid (hR1 q hlt)
        subst hga
        clear hR1 hcr
        unfold byteAt at hc
        obtain ⟨bb, hdrop, hbb⟩ := drop_cons l q (by have := HN.out; omega)
        obtain ⟨by_, hby⟩ : ∃ y, y = byteOf l q := ⟨_, rfl⟩
        have hb256 : by_ < 256 := by rw [hby]; exact byteOf_lt l q
        rw [← hby] at hc hbb
        have Hdrop := Lib.hid hdrop
        have Hbb := Lib.hid hbb
        have Hby := Lib.hid hby
        clear hdrop hbb hby
        have hx0 : (0 : Int) ≤ (q : Int) := by omega
        obtain ⟨op, hop⟩ : ∃ op, op = by_ % 8 := ⟨_, rfl⟩
        obtain ⟨sel, hsel⟩ : ∃ sel, sel = by_ / 8 := ⟨_, rfl⟩
        have hs256 : sel < 256 := by omega
        have m1 : Int.tmod (by_ : Int) 8 = (op : Int) := by rw [Int.tmod_eq_emod_of_nonneg (by omega)]; omega
        have m2 : (by_ : Int) % 8 = (op : Int) := by omega
        have m3 : Int.tdiv (by_ : Int) 8 = (sel : Int) := by rw [Int.tdiv_eq_ediv_of_nonneg (by omega)]; omega
        have m4 : (by_ : Int) / 8 = (sel : Int) := by omega
        have h8 : op = 0 ∨ op = 1 ∨ op = 2 ∨ op = 3 ∨ op = 4 ∨ op = 5 ∨ op = 6 ∨ op = 7 := by omega
        have Hop := Lib.hid hop
        have Hsel := Lib.hid hsel
        clear hop hsel
        obtain ⟨i0, hi, hz0, hz1, hz2⟩ := info_parts info40
        rcases h8 with rfl | rfl | rfl | rfl | rfl | rfl | rfl | rfl
        · obtain ⟨xs, ho, hk⟩ := Hrow.out.own
          rw [← HL.out] at ho
          have Ho := Lib.hid ho
          have Hk := Lib.hid hk
          clear ho hk
          go_wp2_with fail
          refine (text11 sel hs256 wr).mono ?_
          rintro ey wy ⟨rfl, rfl⟩
          go_wp2_with (at_builtin; go_loud (refine wpList_append_fresh _ rfl (.tmp 29) (.tmp 33) 24 rfl w.heap.size 40 i0 _ 7 40 Tryf.underlying24 hi hz0 hz1 hz2 rfl (by decide) vo L vc _ rfl (Ho.out.alloc _) (some ⟨wr.heap.size, 0, none⟩) 1 1 [.pointer none, .string (txt sel), .int .i32 0, .int .u32 0, .int .u16 0, .int .u8 29, .int .u8 0] rfl rfl (by simp) (fun a ha j u hu => cells_new wr #[.pointer none, .string (txt sel), .int .i32 0, .int .u32 0, .int .u16 0, .int .u8 29, .int .u8 0] 40 a (by simpa using ha) j u hu) (by simp [Value.oneCell']) (by unfold maxLen; omega) (by omega) (by simp; omega) ?_; intro vp vcp wp hown1 hg1 hf1; have Hown := Lib.hid hown1; have Hg := Lib.hid hg1; have Hf := Lib.hid hf1; clear hown1 hg1 hf1))
          have hT : PRow w wp vp vcp (acc.app (.leaf 0 sel .nil)) := PRow.more (HL.out ▸ Ho.out) Hk.out Hrow.out.chg ((Chg.refl Nowhere wr).alloc (.cells #[.pointer none, .string (txt sel), .int .i32 0, .int .u32 0, .int .u16 0, .int .u8 29, .int .u8 0] 40)) rfl ⟨by omega, [], rfl, rfl⟩ (HL.out ▸ Hown.out) Hg.out (by simpa using Hf.out)
          have HT := Lib.hid hT
          clear hT
          go_wp2_with fail
          go_roundg (n - (q + 1))
          case measure => have := Hgk.out; omega
          case rel => exact ⟨q + 1, vp, vcp, acc.app (.leaf 0 sel .nil), rfl, by omega, by omega, by go_num, by rw [len_app, ← HL.out]; rfl, by rw [len_app, ← HL.out]; simp [Ts.len]; omega, HT.out, fun ts q2 h => by rw [Ts.app_app]; refine Hpar.out _ q2 ?_; rw [Hdrop.out]; have hl := Parses.leaf (b := bb) (by rw [Hbb.out, ← Hop.out]; omega) h; rw [Hbb.out, ← Hop.out, ← Hsel.out] at hl; exact hl⟩
        · obtain ⟨xs, ho, hk⟩ := Hrow.out.own
          rw [← HL.out] at ho
          have Ho := Lib.hid ho
          have Hk := Lib.hid hk
          clear ho hk
          go_wp2_with (at_builtin; go_loud (refine wpList_append_fresh _ rfl (.tmp 39) (.tmp 41) 24 rfl w.heap.size 40 i0 _ 7 40 Tryf.underlying24 hi hz0 hz1 hz2 rfl (by decide) vo L vc _ rfl (Ho.out.alloc _) (some ⟨wr.heap.size, 0, none⟩) 1 1 [.pointer none, .string ⟨#[44]⟩, .int .i32 0, .int .u32 0, .int .u16 0, .int .u8 10, .int .u8 0] rfl rfl (by simp) (fun a ha j u hu => cells_new wr #[.pointer none, .string ⟨#[44]⟩, .int .i32 0, .int .u32 0, .int .u16 0, .int .u8 10, .int .u8 0] 40 a (by simpa using ha) j u hu) (by simp [Value.oneCell']) (by unfold maxLen; omega) (by omega) (by simp; omega) ?_; intro vp vcp wp hown1 hg1 hf1; have Hown := Lib.hid hown1; have Hg := Lib.hid hg1; have Hf := Lib.hid hf1; clear hown1 hg1 hf1))
          have hT : PRow w wp vp vcp (acc.app (.leaf 1 sel .nil)) := PRow.more (HL.out ▸ Ho.out) Hk.out Hrow.out.chg ((Chg.refl Nowhere wr).alloc (.cells #[.pointer none, .string ⟨#[44]⟩, .int .i32 0, .int .u32 0, .int .u16 0, .int .u8 10, .int .u8 0] 40)) rfl ⟨by omega, [], rfl, rfl⟩ (HL.out ▸ Hown.out) Hg.out (by simpa using Hf.out)
          have HT := Lib.hid hT
          clear hT
          go_wp2_with fail
          go_roundg (n - (q + 1))
          case measure => have := Hgk.out; omega
          case rel => exact ⟨q + 1, vp, vcp, acc.app (.leaf 1 sel .nil), rfl, by omega, by omega, by go_num, by rw [len_app, ← HL.out]; rfl, by rw [len_app, ← HL.out]; simp [Ts.len]; omega, HT.out, fun ts q2 h => by rw [Ts.app_app]; refine Hpar.out _ q2 ?_; rw [Hdrop.out]; have hl := Parses.leaf (b := bb) (by rw [Hbb.out, ← Hop.out]; omega) h; rw [Hbb.out, ← Hop.out, ← Hsel.out] at hl; exact hl⟩
        · obtain ⟨xs, ho, hk⟩ := Hrow.out.own
          rw [← HL.out] at ho
          have Ho := Lib.hid ho
          have Hk := Lib.hid hk
          clear ho hk
          go_wp2_with (at_builtin; go_loud (refine wpList_append_fresh _ rfl (.tmp 47) (.tmp 49) 24 rfl w.heap.size 40 i0 _ 7 40 Tryf.underlying24 hi hz0 hz1 hz2 rfl (by decide) vo L vc _ rfl (Ho.out.alloc _) (some ⟨wr.heap.size, 0, none⟩) 1 1 [.pointer none, .string ⟨#[32]⟩, .int .i32 0, .int .u32 0, .int .u16 0, .int .u8 38, .int .u8 0] rfl rfl (by simp) (fun a ha j u hu => cells_new wr #[.pointer none, .string ⟨#[32]⟩, .int .i32 0, .int .u32 0, .int .u16 0, .int .u8 38, .int .u8 0] 40 a (by simpa using ha) j u hu) (by simp [Value.oneCell']) (by unfold maxLen; omega) (by omega) (by simp; omega) ?_; intro vp vcp wp hown1 hg1 hf1; have Hown := Lib.hid hown1; have Hg := Lib.hid hg1; have Hf := Lib.hid hf1; clear hown1 hg1 hf1))
          have hT : PRow w wp vp vcp (acc.app (.leaf 2 sel .nil)) := PRow.more (HL.out ▸ Ho.out) Hk.out Hrow.out.chg ((Chg.refl Nowhere wr).alloc (.cells #[.pointer none, .string ⟨#[32]⟩, .int .i32 0, .int .u32 0, .int .u16 0, .int .u8 38, .int .u8 0] 40)) rfl ⟨by omega, [], rfl, rfl⟩ (HL.out ▸ Hown.out) Hg.out (by simpa using Hf.out)
          have HT := Lib.hid hT
          clear hT
          go_wp2_with fail
          go_roundg (n - (q + 1))
          case measure => have := Hgk.out; omega
          case rel => exact ⟨q + 1, vp, vcp, acc.app (.leaf 2 sel .nil), rfl, by omega, by omega, by go_num, by rw [len_app, ← HL.out]; rfl, by rw [len_app, ← HL.out]; simp [Ts.len]; omega, HT.out, fun ts q2 h => by rw [Ts.app_app]; refine Hpar.out _ q2 ?_; rw [Hdrop.out]; have hl := Parses.leaf (b := bb) (by rw [Hbb.out, ← Hop.out]; omega) h; rw [Hbb.out, ← Hop.out, ← Hsel.out] at hl; exact hl⟩
        · go_wp2_with fail
          have hcall := IH.out (q + 1) (dp + 1) true wr (Lib.hid (by simp)) (by omega) (by omega) (by omega) (Lib.hid (HR.out.kept Hrow.out.chg (fun _ _ _ h => h)))
          rw [show ((q + 1 : Nat) : Int) = (q : Int) + 1 by omega, show ((dp + 1 : Nat) : Int) = (dp : Int) + 1 by omega] at hcall
          refine hcall.mono ?_
          clear hcall
          rintro ey w2 ⟨kd, qk, kvo, kvc, hqk1, hqk2, rfl, hkp, hkr⟩
          have Hkp := Lib.hid hkp
          have Hkr := Lib.hid hkr
          have hs2 := hkr.chg.size
          obtain ⟨KL, hKL⟩ : ∃ KL, KL = kd.len := ⟨_, rfl⟩
          rw [← hKL]
          have HKL := Lib.hid hKL
          obtain ⟨xs, ho, hk⟩ := Hrow.out.own
          rw [← HL.out] at ho
          have ho2 : w2.ownsRow w.heap.size 40 7 (.slice vo L vc) L xs := hkr.chg.owns ho (fun _ _ h => h)
          have Ho := Lib.hid ho
          have Ho2 := Lib.hid ho2
          have Hk := Lib.hid hk
          have Hqk2 := Lib.hid hqk2
          clear ho ho2 hk hkp hkr hKL hqk2
          go_wp2_with fail
          refine (ftext12 sel hs256 _).mono ?_
          rintro ez wz ⟨rfl, rfl⟩
          go_wp2_with (at_builtin; go_loud (refine wpList_append_fresh _ rfl (.tmp 92) (.tmp 94) 24 rfl w.heap.size 40 i0 _ 7 40 Tryf.underlying24 hi hz0 hz1 hz2 rfl (by decide) vo L vc _ rfl (((Ho2.out.alloc _).alloc _).alloc _) (some ⟨w2.heap.size + 1 + 1, 0, none⟩) 1 1 [.pointer (some ⟨w2.heap.size, 0, none⟩), .string (ftxt sel), .int .i32 0, .int .u32 0, .int .u16 0, .int .u8 27, .int .u8 0] rfl rfl (by simp) (fun a ha j u hu => cells_new ((w2.alloc (.cells #[.slice kvo KL kvc] 24)).alloc (.cells #[.pointer (some ⟨w2.heap.size, 0, none⟩), .string (ftxt sel), .int .i32 0, .int .u32 0, .int .u16 0, .int .u8 27, .int .u8 0] 40)) #[.pointer (some ⟨w2.heap.size, 0, none⟩), .string (ftxt sel), .int .i32 0, .int .u32 0, .int .u16 0, .int .u8 27, .int .u8 0] 40 a (by simpa using ha) j u hu) (by simp [Value.oneCell']) (by unfold maxLen; omega) (by omega) (by simp; omega) ?_; intro vp vcp wp hown1 hg1 hf1; have Hown := Lib.hid hown1; have Hg := Lib.hid hg1; have Hf := Lib.hid hf1; clear hown1 hg1 hf1))
          have hT : PRow w wp vp vcp (acc.app (.node 3 sel kd .nil)) := by
            have hcc : Chg Nowhere w2 (((w2.alloc (.cells #[.slice kvo KL kvc] 24)).alloc (.cells #[.pointer (some ⟨w2.heap.size, 0, none⟩), .string (ftxt sel), .int .i32 0, .int .u32 0, .int .u16 0, .int .u8 27, .int .u8 0] 40)).alloc (.cells #[.pointer (some ⟨w2.heap.size, 0, none⟩), .string (ftxt sel), .int .i32 0, .int .u32 0, .int .u16 0, .int .u8 27, .int .u8 0] 40)) := (((Chg.refl Nowhere w2).alloc _).alloc _).alloc _
            refine PRow.more (w1 := ((w2.alloc (.cells #[.slice kvo KL kvc] 24)).alloc (.cells #[.pointer (some ⟨w2.heap.size, 0, none⟩), .string (ftxt sel), .int .i32 0, .int .u32 0, .int .u16 0, .int .u8 27, .int .u8 0] 40)).alloc (.cells #[.pointer (some ⟨w2.heap.size, 0, none⟩), .string (ftxt sel), .int .i32 0, .int .u32 0, .int .u16 0, .int .u8 27, .int .u8 0] 40)) (HL.out ▸ Ho.out) Hk.out Hrow.out.chg (Hkr.out.chg.trans hcc (fun _ _ h => h)) rfl ⟨by omega, [], ⟨w2.heap.size, kvo, kvc, rfl, ⟨by omega, (by simp; omega)⟩, ?_, ?_⟩, rfl⟩ (HL.out ▸ Hown.out) Hg.out (by simpa using Hf.out)
            · have hb0 := heap_alloc_keep (heap_alloc_keep (heap_alloc_at w2 (.cells #[.slice kvo KL kvc] 24) _ rfl) (.cells #[.pointer (some ⟨w2.heap.size, 0, none⟩), .string (ftxt sel), .int .i32 0, .int .u32 0, .int .u16 0, .int .u8 27, .int .u8 0] 40)) (.cells #[.pointer (some ⟨w2.heap.size, 0, none⟩), .string (ftxt sel), .int .i32 0, .int .u32 0, .int .u16 0, .int .u8 27, .int .u8 0] 40)
              rw [cell_of_heap hb0 0, ← HKL.out]
              rfl
            · have hrw := Hkr.out.row
              rcases hrw with hrw | ⟨gk, e1, e2, e3⟩
              · exact .inl hrw
              · exact .inr ⟨gk, e1, ⟨e2.1, by have := hcc.size; omega⟩, Mem.keep (fun a v _ hcell => hcc.cell hcell (fun h => h)) (fun k hk => ⟨hk.1, by have := hcc.size; omega⟩) kd gk 0 e2 e3⟩
          have HT := Lib.hid hT
          clear hT
          go_wp2_with fail
          go_roundg (n - qk)
          case measure => have := Hgk.out; omega
          case rel => exact ⟨qk, vp, vcp, acc.app (.node 3 sel kd .nil), rfl, by omega, by have := Hqk2.out; have := HN.out; omega, by go_num, by rw [len_app, ← HL.out]; rfl, by rw [len_app, ← HL.out]; simp [Ts.len]; omega, HT.out, fun ts q2 h => by rw [Ts.app_app]; refine Hpar.out _ q2 ?_; rw [Hdrop.out]; have hl := Parses.node (b := bb) (by rw [Hbb.out, ← Hop.out]; omega) Hkp.out h; rw [Hbb.out, ← Hop.out, ← Hsel.out] at hl; exact hl⟩
        · go_wp2_with fail
          have hcall := IH.out (q + 1) (dp + 1) true wr (Lib.hid (by simp)) (by omega) (by omega) (by omega) (Lib.hid (HR.out.kept Hrow.out.chg (fun _ _ _ h => h)))
          rw [show ((q + 1 : Nat) : Int) = (q : Int) + 1 by omega, show ((dp + 1 : Nat) : Int) = (dp : Int) + 1 by omega] at hcall
          refine hcall.mono ?_
          clear hcall
          rintro ey w2 ⟨kd, qk, kvo, kvc, hqk1, hqk2, rfl, hkp, hkr⟩
          have Hkp := Lib.hid hkp
          have Hkr := Lib.hid hkr
          have hs2 := hkr.chg.size
          obtain ⟨KL, hKL⟩ : ∃ KL, KL = kd.len := ⟨_, rfl⟩
          rw [← hKL]
          have HKL := Lib.hid hKL
          obtain ⟨xs, ho, hk⟩ := Hrow.out.own
          rw [← HL.out] at ho
          have ho2 : w2.ownsRow w.heap.size 40 7 (.slice vo L vc) L xs := hkr.chg.owns ho (fun _ _ h => h)
          have Ho := Lib.hid ho
          have Ho2 := Lib.hid ho2
          have Hk := Lib.hid hk
          have Hqk2 := Lib.hid hqk2
          clear ho ho2 hk hkp hkr hKL hqk2
          go_wp2_with (at_builtin; go_loud (refine wpList_append_fresh _ rfl (.tmp 92) (.tmp 94) 24 rfl w.heap.size 40 i0 _ 7 40 Tryf.underlying24 hi hz0 hz1 hz2 rfl (by decide) vo L vc _ rfl (((Ho2.out.alloc _).alloc _).alloc _) (some ⟨w2.heap.size + 1 + 1, 0, none⟩) 1 1 [.pointer (some ⟨w2.heap.size, 0, none⟩), .string ⟨#[40]⟩, .int .i32 0, .int .u32 0, .int .u16 0, .int .u8 33, .int .u8 0] rfl rfl (by simp) (fun a ha j u hu => cells_new ((w2.alloc (.cells #[.slice kvo KL kvc] 24)).alloc (.cells #[.pointer (some ⟨w2.heap.size, 0, none⟩), .string ⟨#[40]⟩, .int .i32 0, .int .u32 0, .int .u16 0, .int .u8 33, .int .u8 0] 40)) #[.pointer (some ⟨w2.heap.size, 0, none⟩), .string ⟨#[40]⟩, .int .i32 0, .int .u32 0, .int .u16 0, .int .u8 33, .int .u8 0] 40 a (by simpa using ha) j u hu) (by simp [Value.oneCell']) (by unfold maxLen; omega) (by omega) (by simp; omega) ?_; intro vp vcp wp hown1 hg1 hf1; have Hown := Lib.hid hown1; have Hg := Lib.hid hg1; have Hf := Lib.hid hf1; clear hown1 hg1 hf1))
          have hT : PRow w wp vp vcp (acc.app (.node 4 sel kd .nil)) := by
            have hcc : Chg Nowhere w2 (((w2.alloc (.cells #[.slice kvo KL kvc] 24)).alloc (.cells #[.pointer (some ⟨w2.heap.size, 0, none⟩), .string ⟨#[40]⟩, .int .i32 0, .int .u32 0, .int .u16 0, .int .u8 33, .int .u8 0] 40)).alloc (.cells #[.pointer (some ⟨w2.heap.size, 0, none⟩), .string ⟨#[40]⟩, .int .i32 0, .int .u32 0, .int .u16 0, .int .u8 33, .int .u8 0] 40)) := (((Chg.refl Nowhere w2).alloc _).alloc _).alloc _
            refine PRow.more (w1 := ((w2.alloc (.cells #[.slice kvo KL kvc] 24)).alloc (.cells #[.pointer (some ⟨w2.heap.size, 0, none⟩), .string ⟨#[40]⟩, .int .i32 0, .int .u32 0, .int .u16 0, .int .u8 33, .int .u8 0] 40)).alloc (.cells #[.pointer (some ⟨w2.heap.size, 0, none⟩), .string ⟨#[40]⟩, .int .i32 0, .int .u32 0, .int .u16 0, .int .u8 33, .int .u8 0] 40)) (HL.out ▸ Ho.out) Hk.out Hrow.out.chg (Hkr.out.chg.trans hcc (fun _ _ h => h)) rfl ⟨by omega, [], ⟨w2.heap.size, kvo, kvc, rfl, ⟨by omega, (by simp; omega)⟩, ?_, ?_⟩, rfl⟩ (HL.out ▸ Hown.out) Hg.out (by simpa using Hf.out)
            · have hb0 := heap_alloc_keep (heap_alloc_keep (heap_alloc_at w2 (.cells #[.slice kvo KL kvc] 24) _ rfl) (.cells #[.pointer (some ⟨w2.heap.size, 0, none⟩), .string ⟨#[40]⟩, .int .i32 0, .int .u32 0, .int .u16 0, .int .u8 33, .int .u8 0] 40)) (.cells #[.pointer (some ⟨w2.heap.size, 0, none⟩), .string ⟨#[40]⟩, .int .i32 0, .int .u32 0, .int .u16 0, .int .u8 33, .int .u8 0] 40)
              rw [cell_of_heap hb0 0, ← HKL.out]
              rfl
            · have hrw := Hkr.out.row
              rcases hrw with hrw | ⟨gk, e1, e2, e3⟩
              · exact .inl hrw
              · exact .inr ⟨gk, e1, ⟨e2.1, by have := hcc.size; omega⟩, Mem.keep (fun a v _ hcell => hcc.cell hcell (fun h => h)) (fun k hk => ⟨hk.1, by have := hcc.size; omega⟩) kd gk 0 e2 e3⟩
          have HT := Lib.hid hT
          clear hT
          go_wp2_with fail
          go_roundg (n - qk)
          case measure => have := Hgk.out; omega
          case rel => exact ⟨qk, vp, vcp, acc.app (.node 4 sel kd .nil), rfl, by omega, by have := Hqk2.out; have := HN.out; omega, by go_num, by rw [len_app, ← HL.out]; rfl, by rw [len_app, ← HL.out]; simp [Ts.len]; omega, HT.out, fun ts q2 h => by rw [Ts.app_app]; refine Hpar.out _ q2 ?_; rw [Hdrop.out]; have hl := Parses.node (b := bb) (by rw [Hbb.out, ← Hop.out]; omega) Hkp.out h; rw [Hbb.out, ← Hop.out, ← Hsel.out] at hl; exact hl⟩
        · by_cases hd0 : 0 < dp
          · have hdi : (0 : Int) < (dp : Int) := by omega
            have Hd0 := Lib.hid (Hd.out.trans (decide_eq_true hd0))
            clear hd0
            go_wp2_with fail
            go_ret2
            refine ⟨acc, q + 1, vo, vc, by omega, by have := HN.out; omega, ?_, ?_, Hrow.out⟩
            · rw [HL.out]; first | rfl | (simp; done)
            · have h5 := Hpar.out .nil (q + 1) (by rw [Hdrop.out, Hd0.out]; exact Parses.close _ (by rw [Hbb.out, ← Hop.out]))
              rw [Ts.app_nil] at h5
              exact h5
          · have hdi : ¬ (0 : Int) < (dp : Int) := by omega
            have Hd0 := Lib.hid (Hd.out.trans (decide_eq_false hd0))
            clear hd0
            go_wp2_with fail
            go_roundg (n - (q + 1))
            case measure => have := Hgk.out; omega
            case rel => exact ⟨q + 1, vo, vc, acc, rfl, by omega, by omega, by go_num, by rw [HL.out], by have := HL.out; omega, Hrow.out, fun ts q2 h => by refine Hpar.out _ q2 ?_; rw [Hdrop.out]; rw [Hd0.out] at h ⊢; exact Parses.skip (by rw [Hbb.out, ← Hop.out]) h⟩
        · obtain ⟨xs, ho, hk⟩ := Hrow.out.own
          rw [← HL.out] at ho
          have Ho := Lib.hid ho
          have Hk := Lib.hid hk
          clear ho hk
          go_wp2_with (at_builtin; go_loud (refine wpList_append_fresh _ rfl (.tmp 55) (.tmp 57) 24 rfl w.heap.size 40 i0 _ 7 40 Tryf.underlying24 hi hz0 hz1 hz2 rfl (by decide) vo L vc _ rfl (Ho.out.alloc _) (some ⟨wr.heap.size, 0, none⟩) 1 1 [.pointer none, .string ⟨#[42]⟩, .int .i32 0, .int .u32 0, .int .u16 0, .int .u8 13, .int .u8 0] rfl rfl (by simp) (fun a ha j u hu => cells_new wr #[.pointer none, .string ⟨#[42]⟩, .int .i32 0, .int .u32 0, .int .u16 0, .int .u8 13, .int .u8 0] 40 a (by simpa using ha) j u hu) (by simp [Value.oneCell']) (by unfold maxLen; omega) (by omega) (by simp; omega) ?_; intro vp vcp wp hown1 hg1 hf1; have Hown := Lib.hid hown1; have Hg := Lib.hid hg1; have Hf := Lib.hid hf1; clear hown1 hg1 hf1))
          have hT : PRow w wp vp vcp (acc.app (.leaf 6 sel .nil)) := PRow.more (HL.out ▸ Ho.out) Hk.out Hrow.out.chg ((Chg.refl Nowhere wr).alloc (.cells #[.pointer none, .string ⟨#[42]⟩, .int .i32 0, .int .u32 0, .int .u16 0, .int .u8 13, .int .u8 0] 40)) rfl ⟨by omega, [], rfl, rfl⟩ (HL.out ▸ Hown.out) Hg.out (by simpa using Hf.out)
          have HT := Lib.hid hT
          clear hT
          go_wp2_with fail
          go_roundg (n - (q + 1))
          case measure => have := Hgk.out; omega
          case rel => exact ⟨q + 1, vp, vcp, acc.app (.leaf 6 sel .nil), rfl, by omega, by omega, by go_num, by rw [len_app, ← HL.out]; rfl, by rw [len_app, ← HL.out]; simp [Ts.len]; omega, HT.out, fun ts q2 h => by rw [Ts.app_app]; refine Hpar.out _ q2 ?_; rw [Hdrop.out]; have hl := Parses.leaf (b := bb) (by rw [Hbb.out, ← Hop.out]; omega) h; rw [Hbb.out, ← Hop.out, ← Hsel.out] at hl; exact hl⟩
        · go_wp2_with fail
          have hcall := IH.out (q + 1) (dp + 1) true wr (Lib.hid (by simp)) (by omega) (by omega) (by omega) (Lib.hid (HR.out.kept Hrow.out.chg (fun _ _ _ h => h)))
          rw [show ((q + 1 : Nat) : Int) = (q : Int) + 1 by omega, show ((dp + 1 : Nat) : Int) = (dp : Int) + 1 by omega] at hcall
          refine hcall.mono ?_
          clear hcall
          rintro ey w2 ⟨kd, qk, kvo, kvc, hqk1, hqk2, rfl, hkp, hkr⟩
          have Hkp := Lib.hid hkp
          have Hkr := Lib.hid hkr
          have hs2 := hkr.chg.size
          obtain ⟨KL, hKL⟩ : ∃ KL, KL = kd.len := ⟨_, rfl⟩
          rw [← hKL]
          have HKL := Lib.hid hKL
          obtain ⟨xs, ho, hk⟩ := Hrow.out.own
          rw [← HL.out] at ho
          have ho2 : w2.ownsRow w.heap.size 40 7 (.slice vo L vc) L xs := hkr.chg.owns ho (fun _ _ h => h)
          have Ho := Lib.hid ho
          have Ho2 := Lib.hid ho2
          have Hk := Lib.hid hk
          have Hqk2 := Lib.hid hqk2
          clear ho ho2 hk hkp hkr hKL hqk2
          go_wp2_with (at_builtin; go_loud (refine wpList_append_fresh _ rfl (.tmp 92) (.tmp 94) 24 rfl w.heap.size 40 i0 _ 7 40 Tryf.underlying24 hi hz0 hz1 hz2 rfl (by decide) vo L vc _ rfl (((Ho2.out.alloc _).alloc _).alloc _) (some ⟨w2.heap.size + 1 + 1, 0, none⟩) 1 1 [.pointer (some ⟨w2.heap.size, 0, none⟩), .string ⟨#[91]⟩, .int .i32 0, .int .u32 0, .int .u16 0, .int .u8 32, .int .u8 0] rfl rfl (by simp) (fun a ha j u hu => cells_new ((w2.alloc (.cells #[.slice kvo KL kvc] 24)).alloc (.cells #[.pointer (some ⟨w2.heap.size, 0, none⟩), .string ⟨#[91]⟩, .int .i32 0, .int .u32 0, .int .u16 0, .int .u8 32, .int .u8 0] 40)) #[.pointer (some ⟨w2.heap.size, 0, none⟩), .string ⟨#[91]⟩, .int .i32 0, .int .u32 0, .int .u16 0, .int .u8 32, .int .u8 0] 40 a (by simpa using ha) j u hu) (by simp [Value.oneCell']) (by unfold maxLen; omega) (by omega) (by simp; omega) ?_; intro vp vcp wp hown1 hg1 hf1; have Hown := Lib.hid hown1; have Hg := Lib.hid hg1; have Hf := Lib.hid hf1; clear hown1 hg1 hf1))
          have hT : PRow w wp vp vcp (acc.app (.node 7 sel kd .nil)) := by
            have hcc : Chg Nowhere w2 (((w2.alloc (.cells #[.slice kvo KL kvc] 24)).alloc (.cells #[.pointer (some ⟨w2.heap.size, 0, none⟩), .string ⟨#[91]⟩, .int .i32 0, .int .u32 0, .int .u16 0, .int .u8 32, .int .u8 0] 40)).alloc (.cells #[.pointer (some ⟨w2.heap.size, 0, none⟩), .string ⟨#[91]⟩, .int .i32 0, .int .u32 0, .int .u16 0, .int .u8 32, .int .u8 0] 40)) := (((Chg.refl Nowhere w2).alloc _).alloc _).alloc _
            refine PRow.more (w1 := ((w2.alloc (.cells #[.slice kvo KL kvc] 24)).alloc (.cells #[.pointer (some ⟨w2.heap.size, 0, none⟩), .string ⟨#[91]⟩, .int .i32 0, .int .u32 0, .int .u16 0, .int .u8 32, .int .u8 0] 40)).alloc (.cells #[.pointer (some ⟨w2.heap.size, 0, none⟩), .string ⟨#[91]⟩, .int .i32 0, .int .u32 0, .int .u16 0, .int .u8 32, .int .u8 0] 40)) (HL.out ▸ Ho.out) Hk.out Hrow.out.chg (Hkr.out.chg.trans hcc (fun _ _ h => h)) rfl ⟨by omega, [], ⟨w2.heap.size, kvo, kvc, rfl, ⟨by omega, (by simp; omega)⟩, ?_, ?_⟩, rfl⟩ (HL.out ▸ Hown.out) Hg.out (by simpa using Hf.out)
            · have hb0 := heap_alloc_keep (heap_alloc_keep (heap_alloc_at w2 (.cells #[.slice kvo KL kvc] 24) _ rfl) (.cells #[.pointer (some ⟨w2.heap.size, 0, none⟩), .string ⟨#[91]⟩, .int .i32 0, .int .u32 0, .int .u16 0, .int .u8 32, .int .u8 0] 40)) (.cells #[.pointer (some ⟨w2.heap.size, 0, none⟩), .string ⟨#[91]⟩, .int .i32 0, .int .u32 0, .int .u16 0, .int .u8 32, .int .u8 0] 40)
              rw [cell_of_heap hb0 0, ← HKL.out]
              rfl
            · have hrw := Hkr.out.row
              rcases hrw with hrw | ⟨gk, e1, e2, e3⟩
              · exact .inl hrw
              · exact .inr ⟨gk, e1, ⟨e2.1, by have := hcc.size; omega⟩, Mem.keep (fun a v _ hcell => hcc.cell hcell (fun h => h)) (fun k hk => ⟨hk.1, by have := hcc.size; omega⟩) kd gk 0 e2 e3⟩
          have HT := Lib.hid hT
          clear hT
          go_wp2_with fail
          go_roundg (n - qk)
          case measure => have := Hgk.out; omega
          case rel => exact ⟨qk, vp, vcp, acc.app (.node 7 sel kd .nil), rfl, by omega, by have := Hqk2.out; have := HN.out; omega, by go_num, by rw [len_app, ← HL.out]; rfl, by rw [len_app, ← HL.out]; simp [Ts.len]; omega, HT.out, fun ts q2 h => by rw [Ts.app_app]; refine Hpar.out _ q2 ?_; rw [Hdrop.out]; have hl := Parses.node (b := bb) (by rw [Hbb.out, ← Hop.out]; omega) Hkp.out h; rw [Hbb.out, ← Hop.out, ← Hsel.out] at hl; exact hl⟩
      · have hx1 : ¬ (q : Int) < (n : Int) := by omega
        have hqe : q = n := by omega
        have Hqe := Lib.hid hqe
        clear hqe hcr
        go_wp2_with fail
        go_ret2
        refine ⟨acc, q, vo, vc, by omega, by have := HN.out; omega, ?_, ?_, Hrow.out⟩
        · rw [HL.out]; first | rfl | (simp; done)
        · have h5 := Hpar.out .nil q (by rw [List.drop_eq_nil_of_le (by have := HN.out; have := Hqe.out; omega)]; exact Parses.nil _)
          rw [Ts.app_nil] at h5
          exact h5
end Go.Proofs.YtbbanpfkicdnmaaFmt
