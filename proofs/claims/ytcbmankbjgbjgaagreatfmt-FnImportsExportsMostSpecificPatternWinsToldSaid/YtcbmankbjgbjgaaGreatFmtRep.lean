/-
  Proved: contracts of zzIndex and zzReplaceAll at one star. No statement of the seat stands here.
-/
import Derived.Test.YtcbmankbjgbjgaaGreatFmtSeg
import Derived.Test.YtcbmankbjgbjgaaGreatFmtFtApp
namespace Go.Proofs.YtcbmankbjgbjgaaGreatFmt
open Go.RowKit Go.ChangeAt
set_option linter.unusedSimpArgs false
set_option linter.unusedVariables false
set_option maxRecDepth 100000
def intOf' : Value → Int | .int _ q => q | _ => 0
theorem one_at (s : ByteArray) (i : Nat) (h : i < s.size) : (s.extract i (i + 1)).toList = [s[i]'h] := by
  rw [ByteArray.toList_eq, ByteArray.data_extract, Array.toList_extract]
  have h2 : i < s.data.toList.length := by rw [Array.length_toList]; exact h
  simp only [List.extract_eq_take_drop]
  rw [show i + 1 - i = 1 by omega, List.drop_eq_getElem_cons h2]
  rfl
theorem star_at (s : ByteArray) (i : Nat) (h : i < s.size) : ((s.extract i (i + 1)).toList == [42]) = decide (bt s i = 42) := by
  rw [one_at s i h, ← bt_eq s i h]
  by_cases hb : (s[i]'h).toNat = 42
  · have : s[i]'h = 42 := UInt8.toNat_inj.1 hb
    rw [decide_eq_true hb, this]; rfl
  · rw [decide_eq_false hb]
    refine beq_eq_false_iff_ne.2 fun e => hb ?_
    have := List.cons.inj e
    rw [this.1]; rfl
def IdxOut' (r : Int) (w : World) (e : Ending) (w' : World) : Prop := e = .returned (.int .i64 r) ∧ w = w'
theorem idx47 (s : ByteArray) (k : Nat) (r : Int) (w : World) (hs : s.size ≤ 16777216) (hk : k ≤ s.size) (hno : ∀ i, i < k → bt s i ≠ 42) (hat : k < s.size → bt s k = 42) (hr1 : k < s.size → r = k) (hr2 : ¬ k < s.size → r = -1) :
    Calls Tryz.prog 47 #[.string s, .string ⟨#[42]⟩] w (IdxOut' r w) := by
  have Hno := Lib.hid hno
  have Hat := Lib.hid hat
  have Hr1 := Lib.hid hr1
  have Hr2 := Lib.hid hr2
  clear hno hat hr1 hr2
  go_enter Tryz.func47, Tryz.ntmps47
  go_wp2_with fail
  go_loop [5] (fun i => ∃ j : Nat, j ≤ k ∧ i = .int .i64 j) (fun i => k - (intOf' i).toNat)
  case atStart => exact ⟨0, by omega, rfl⟩
  case round =>
    obtain ⟨j, hj, rfl⟩ := hrel
    by_cases hlt : j < s.size
    · have x1 : (j : Int) + 1 ≤ (s.size : Int) := by omega
      have hst := star_at s j hlt
      have x0 : (0 : Int) ≤ (j : Int) := by omega
      have x2 : ((j : Int) + 1).toNat = j + 1 := by omega
      by_cases hjk : j < k
      · rw [decide_eq_false (Hno.out j hjk)] at hst
        go_wp2_with fail
        go_round
        case rel => exact ⟨j + 1, by omega, by go_num⟩
        case measure => simp [intOf']; omega
      · obtain rfl : j = k := by omega
        rw [decide_eq_true (Hat.out hlt)] at hst
        have hr := Hr1.out hlt
        have Hr := Lib.hid hr
        clear hr
        go_wp2_with fail
        go_ret
        exact ⟨congrArg (fun z => Ending.returned (Value.int .i64 z)) Hr.out.symm, rfl⟩
    · have x1 : ¬ (j : Int) + 1 ≤ (s.size : Int) := by omega
      have hr := Hr2.out (by omega)
      have Hr := Lib.hid hr
      clear hr
      go_wp2_with fail
      go_ret
      exact ⟨congrArg (fun z => Ending.returned (Value.int .i64 z)) Hr.out.symm, rfl⟩
theorem infoU8 : (Tryz.prog.info? 5).map (fun i => (i.zero, i.size, i.bytes)) = some (some (.int .u8 0), 1, 1) := by kernel_rfl
theorem info_parts' {P : Program} {e : TypeId} {z : Value} {s b : Nat} (h : (P.info? e).map (fun i => (i.zero, i.size, i.bytes)) = some (some z, s, b)) : ∃ i, P.info? e = some i ∧ i.zero = some z ∧ i.size = s ∧ i.bytes = b := by
  obtain ⟨i, hi, hz⟩ := Option.map_eq_some_iff.1 h
  simp only [Prod.mk.injEq] at hz
  exact ⟨i, hi, hz.1, hz.2.1, hz.2.2⟩
theorem strCells_bytes' (s : ByteArray) : Lib.strCells s = Lib.byteCells s.data.toList := by simp [Lib.strCells, Lib.byteCells]
theorem inRow_own' {w : World} {B : Nat} {e : TypeId} {sz n vc : Nat} {vo : Option Addr} {xs : List Value} (h2 : w.ownsRow B e sz (.slice vo n vc) n xs) : ∀ k, InRow vo k → B ≤ k ∧ k < w.heap.size := by
  rintro k ⟨x, rfl, rfl⟩
  rcases ownsRow_addr h2 with ⟨h3, _⟩ | ⟨g, h3, h4, h5⟩
  · cases h3
  · injection h3 with h3
    subst h3
    exact ⟨h4, h5⟩
/-- What zzReplaceAll has gathered. -/
structure Gath (w wr : World) (vo : Option Addr) (vc : Nat) (x : ByteArray) : Prop where
  own : wr.ownsRow w.heap.size 5 1 (.slice vo x.size vc) x.size (Lib.strCells x)
  chg : Chg Nowhere w wr
theorem Gath.more {w wr w' : World} {vo vo' : Option Addr} {vc vc' : Nat} {x y z : ByteArray} (h : Gath w wr vo vc x) (ho : w'.ownsRow w.heap.size 5 1 (.slice vo' (x.size + y.size) vc') (x.size + y.size) (Lib.strCells x ++ Lib.strCells y)) (hc : Chg (InRow vo) wr w') (hz : z = x ++ y) : Gath w w' vo' vc' z := by
  subst hz
  refine ⟨?_, h.chg.trans hc fun k hk hs => absurd (inRow_own' h.own k hs).1 (by omega)⟩
  rw [ByteArray.size_append]
  have e : Lib.strCells (x ++ y) = Lib.strCells x ++ Lib.strCells y := by
    rw [strCells_bytes', strCells_bytes', strCells_bytes', ByteArray.data_append, Array.toList_append]
    simp [Lib.byteCells]
  rw [e]
  exact ho
theorem gath_str {w wr : World} {vo : Option Addr} {vc : Nat} {x : ByteArray} (h : Gath w wr vo vc x) (hx : x.size ≠ 0) : (convert 91 9 (.slice vo x.size vc)).run Tryz.prog wr = .ok (.string x) wr := by
  have hg : ∃ g, vo = some ⟨g, 0, none⟩ := by
    rcases ownsRow_addr h.own with ⟨h1, h2, _⟩ | ⟨g, h1, _⟩
    · omega
    · exact ⟨g, h1⟩
  obtain ⟨g, rfl⟩ := hg
  have hl : x.data.toList.length = x.size := by rw [Array.length_toList]; rfl
  have hh := run_convert_bytes_back (P := Tryz.prog) wr 91 9 5 ⟨g, 0, none⟩ vc x.data.toList Tryz.underlying91 Tryz.underlying5 Tryz.underlying9 (fun j hj => by
    refine h.own.cells (g := g) rfl j _ ?_
    rw [strCells_bytes']
    simp only [Lib.byteCells, List.getElem?_map, List.getElem?_eq_getElem hj, Option.map_some])
  rw [hl] at hh
  exact hh
theorem app_nil (x : ByteArray) : x = x ++ ⟨#[]⟩ := by
  apply ByteArray.ext
  rw [ByteArray.data_append]
  simp
theorem wp_gath0 {ops : Array Oper} {rest : List Oper} {o : Oper} {a : Act} {Q : Exit → Act → World → Prop} (hgd : o.guard = none) (s x : Operand) (ho : o.op = .call { callee := .builtin .append, args := #[s, x], argTypes := #[91, 9] })
    (w : World) (Y : ByteArray) (hs : a.eval s = .slice none 0 0) (hx : a.eval x = .string Y) (hb : Y.size ≤ 8388608) (h : ∀ vo vc w', Gath w w' vo vc Y → wpList Tryz.prog ops Q rest (a.put o.dst (.slice vo Y.size vc)) w') : wpList Tryz.prog ops Q (o :: rest) a w := by
  obtain ⟨i, hi, hz0, hz1, hz2⟩ := info_parts' infoU8
  refine wpList_append_str_fresh w hgd s x 91 9 ho w.heap.size 5 i Tryz.underlying91 Tryz.underlying9 hi hz0 hz1 hz2 none 0 0 [] hs ⟨rfl, .inl ⟨rfl, rfl⟩⟩ Y hx (by unfold maxLen; omega) (by omega) (Nat.le_refl _) ?_
  intro vo vc w' h1 h2 h3
  rw [Nat.zero_add] at h1 ⊢
  exact h vo vc w' ⟨by simpa using h1, h2.mono (fun k hk hs => by obtain ⟨x, hx, _⟩ := hs; cases hx)⟩
theorem wp_gath1 {ops : Array Oper} {rest : List Oper} {o : Oper} {a : Act} {Q : Exit → Act → World → Prop} (hgd : o.guard = none) (s x : Operand) (ho : o.op = .call { callee := .builtin .append, args := #[s, x], argTypes := #[91, 9] })
    (w wr : World) (X Y Z : ByteArray) (vo : Option Addr) (vc : Nat) (hG : Gath w wr vo vc X) (hZ : Z = X ++ Y) (hs : a.eval s = .slice vo X.size vc) (hx : a.eval x = .string Y) (hb1 : X.size ≤ 16777216) (hb : Y.size ≤ 8388608) (h : ∀ vo vc w', Gath w w' vo vc Z → wpList Tryz.prog ops Q rest (a.put o.dst (.slice vo Z.size vc)) w') : wpList Tryz.prog ops Q (o :: rest) a wr := by
  obtain ⟨i, hi, hz0, hz1, hz2⟩ := info_parts' infoU8
  refine wpList_append_str_fresh wr hgd s x 91 9 ho w.heap.size 5 i Tryz.underlying91 Tryz.underlying9 hi hz0 hz1 hz2 vo X.size vc _ hs hG.own Y hx (by unfold maxLen; omega) (by omega) hG.chg.size ?_
  intro vo' vc' w' h1 h2 h3
  have e : Z.size = X.size + Y.size := by rw [hZ, ByteArray.size_append]
  have := h vo' vc' w' (hG.more h1 h2 hZ)
  rw [e] at this
  exact this
set_option maxHeartbeats 4000000 in
theorem rep37 (s p sub : ByteArray) (w : World) (hs : s = p ++ ⟨#[42]⟩) (hp : ∀ i, i < p.size → bt p i ≠ 42) (h1 : 1 ≤ p.size) (h2 : p.size ≤ 4194304) (h3 : sub.size ≤ 4194304) :
    Calls Tryz.prog 37 #[.string s, .string ⟨#[42]⟩, .string sub] w (StrOut (p ++ sub) w) := by
  have hsz : s.size = p.size + 1 := by rw [hs, ByteArray.size_append]; rfl
  have hk := idx47 s p.size p.size w (by omega) (by omega) (fun i hi => by rw [hs, bt_left _ _ i hi]; exact hp i hi) (fun h => by
    rw [hs]
    unfold bt
    rw [dif_pos (by rw [ByteArray.size_append]; show p.size < p.size + 1; omega)]
    rw [ByteArray.getElem_append_right (Nat.le_refl _)]
    simp
    rfl) (fun _ => rfl) (fun h => by omega)
  have hno := fun w => idx47 ⟨#[]⟩ 0 (-1) w (by decide) (Nat.le_refl _) (fun i hi => by omega) (fun h => by cases h) (fun h => by cases h) (fun _ => rfl)
  have e1 : s.extract 0 p.size = p := by rw [hs, ByteArray.extract_append_eq_left rfl]
  have e2 : ∀ n, n = s.size → s.extract (p.size + 1) n = ⟨#[]⟩ := fun n hn => by
    subst hn
    apply ByteArray.ext
    rw [ByteArray.data_extract]
    have : s.data.size = p.size + 1 := hsz
    simp [Array.extract_eq_empty_iff]
    omega
  clear hs hp
  obtain ⟨x, hx⟩ : ∃ x, x = p ++ sub := ⟨_, rfl⟩
  rw [← hx]
  have hxs : x.size = p.size + sub.size := by rw [hx]; exact ByteArray.size_append
  have HX := Lib.hid (And.intro hx hxs)
  clear hx hxs
  have E1 := Lib.hid e1
  have e3 : ∀ n, n = s.size → Value.string (s.extract (p.size + 1) n) = Value.string ⟨#[]⟩ := fun n hn => congrArg Value.string (e2 n hn)
  have E2 := Lib.hid e2
  have E3 := Lib.hid e3
  clear e3
  have HK := Lib.hid hk
  have HN := Lib.hid hno
  clear e1 e2 hk hno
  go_enter Tryz.func37, Tryz.ntmps37
  go_wp2_with fail
  go_loopw [0, 7] (fun a d wr => (a = .string s ∧ d = .slice none 0 0 ∧ wr = w) ∨ ∃ vo vc, a = .string ⟨#[]⟩ ∧ d = .slice vo x.size vc ∧ Gath w wr vo vc x) (fun a _ _ => match a with | .string x => x.size | _ => 0)
  case atStart => exact .inl ⟨rfl, rfl, rfl⟩
  case round =>
    rcases hrel with ⟨rfl, rfl, rfl⟩ | ⟨vo, vc, rfl, rfl, hg⟩
    · go_wp2_with fail
      refine HK.out.mono ?_
      rintro e w1 ⟨rfl, rfl⟩
      have x0 : ¬ (p.size : Int) < 0 := by omega
      have x1 : (0 : Int) ≤ (p.size : Int) := by omega
      have x2 : (p.size : Int) ≤ (s.size : Int) := by omega
      have x3 : (p.size : Int) + 1 ≤ (s.size : Int) := by omega
      rename World => w0
      go_wp2_with (first | (at_builtin; go_loud (refine wp_gath0 rfl (.tmp 18) (.tmp 21) rfl w0 p rfl (congrArg Value.string E1.out) (by omega) ?_; intro v1 c1 w1 hg; have HG1 := Lib.hid hg; clear hg)) | (at_builtin; go_loud (refine wp_gath1 rfl (.tmp 22) (.tmp 23) rfl w0 w1 p sub x v1 c1 HG1.out HX.out.1 rfl rfl (by omega) (by omega) ?_; intro v2 c2 w2 hg; have HG2 := Lib.hid hg; clear hg)))
      go_roundw
      case rel => exact .inr ⟨v2, c2, rfl, rfl, HG2.out⟩
      case measure => simp; omega
    · have HG := Lib.hid hg
      clear hg
      rename World => w0
      go_wp2_with fail
      refine (HN.out _).mono ?_
      rintro e w1 ⟨rfl, rfl⟩
      rename World => w1
      go_wp2_with (at_builtin; go_loud (refine wp_gath1 rfl (.tmp 14) (.tmp 15) rfl w w1 x ⟨#[]⟩ x vo vc HG.out (app_nil _) rfl rfl (by have := HX.out.2; omega) (by decide) ?_; intro v2 c2 w2 hg; have hcv := gath_str hg (by have := HX.out.2; omega); have HG2 := Lib.hid hg; clear hg))
      go_ret
      exact ⟨rfl, HG2.out.chg⟩
end Go.Proofs.YtcbmankbjgbjgaaGreatFmt
