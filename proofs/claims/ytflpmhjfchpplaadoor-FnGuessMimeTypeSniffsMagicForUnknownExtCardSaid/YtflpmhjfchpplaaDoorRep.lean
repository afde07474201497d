/-
  Proved: contracts of zzIndex and zzReplaceAll at '; '. No statement of the seat stands here.
-/
import Derived.Test.YtflpmhjfchpplaaDoorBase
import Derived.Test.YtflpmhjfchpplaaDoorApp
import Derived.WideShapes
import Derived.Test.YtflpmhjfchpplaaDoorProg
namespace Go.Proofs.YtflpmhjfchpplaaDoor
open Go.RowKit Go.ChangeAt
set_option linter.unusedSimpArgs false
set_option linter.unusedVariables false
set_option maxRecDepth 100000
def bt (s : ByteArray) (i : Nat) : Nat := if h : i < s.size then (s[i]'h).toNat else 0
theorem bt_eq (s : ByteArray) (i : Nat) (h : i < s.size) : (s[i]'h).toNat = bt s i := by unfold bt; rw [dif_pos h]
def occ (s : ByteArray) (i : Nat) : Bool := bt s i == 59 && bt s (i + 1) == 32
theorem two_at (s : ByteArray) (i : Nat) (h : i + 2 ≤ s.size) : (s.extract i (i + 2)).toList = [s[i]'(by omega), s[i + 1]'(by omega)] := by
  rw [ByteArray.toList_eq, ByteArray.data_extract, Array.toList_extract]
  have h2 : i < s.data.toList.length := by rw [Array.length_toList]; show i < s.size; omega
  have h3 : i + 1 < s.data.toList.length := by rw [Array.length_toList]; show i + 1 < s.size; omega
  simp only [List.extract_eq_take_drop]
  rw [show i + 2 - i = 2 by omega, List.drop_eq_getElem_cons h2, List.drop_eq_getElem_cons h3]
  rfl
theorem occ_at (s : ByteArray) (i : Nat) (h : i + 2 ≤ s.size) : ((s.extract i (i + 2)).toList == [59, 32]) = occ s i := by
  rw [two_at s i h]
  unfold occ
  rw [← bt_eq s i (by omega), ← bt_eq s (i + 1) (by omega)]
  generalize s[i]'(by omega) = a
  generalize s[i + 1]'(by omega) = b
  have e : ∀ (x : UInt8) (n : Nat) (y : UInt8), y.toNat = n → (x == y) = (x.toNat == n) := fun x n y hy => by
    subst hy
    by_cases h : x = y
    · subst h; simp
    · rw [beq_eq_false_iff_ne.2 h, beq_eq_false_iff_ne.2 (fun e => h (UInt8.toNat_inj.1 e))]
  rw [← e a 59 59 rfl, ← e b 32 32 rfl]
  simp [List.cons_beq_cons]
def intOf' : Value → Int | .int _ q => q | _ => 0
def IdxIs (r : Int) (w : World) (e : Ending) (w' : World) : Prop := e = .returned (.int .i64 r) ∧ w = w'
theorem idx17 (s : ByteArray) (k : Nat) (r : Int) (w : World) (hs : s.size ≤ 16777216) (hk : k ≤ s.size) (hno : ∀ i, i < k → occ s i = false) (hat : k + 2 ≤ s.size → occ s k = true) (hr1 : k + 2 ≤ s.size → r = k) (hr2 : ¬ k + 2 ≤ s.size → r = -1) :
    Calls Tryd.prog 17 #[.string s, .string ⟨#[59, 32]⟩] w (IdxIs r w) := by
  have Hno := Lib.hid hno
  have Hat := Lib.hid hat
  have Hr1 := Lib.hid hr1
  have Hr2 := Lib.hid hr2
  clear hno hat hr1 hr2
  go_enter Tryd.func17, Tryd.ntmps17
  go_wp2_with fail
  go_loop [5] (fun i => ∃ j : Nat, j ≤ k ∧ i = .int .i64 j) (fun i => k - (intOf' i).toNat)
  case atStart => exact ⟨0, by omega, rfl⟩
  case round =>
    obtain ⟨j, hj, rfl⟩ := hrel
    by_cases hlt : j + 2 ≤ s.size
    · have x1 : (j : Int) + 2 ≤ (s.size : Int) := by omega
      have hst := occ_at s j hlt
      have x0 : (0 : Int) ≤ (j : Int) := by omega
      have x2 : ((j : Int) + 2).toNat = j + 2 := by omega
      by_cases hjk : j < k
      · rw [Hno.out j hjk] at hst
        go_wp2_with fail
        go_round
        case rel => exact ⟨j + 1, by omega, by go_num⟩
        case measure => simp [intOf']; omega
      · obtain rfl : j = k := by omega
        rw [Hat.out hlt] at hst
        have hr := Hr1.out hlt
        have Hr := Lib.hid hr
        clear hr
        go_wp2_with fail
        go_ret
        exact ⟨congrArg (fun z => Ending.returned (Value.int .i64 z)) Hr.out.symm, rfl⟩
    · have x1 : ¬ (j : Int) + 2 ≤ (s.size : Int) := by omega
      by_cases hjk : j < k
      · have hr := Hr2.out (by omega)
        have Hr := Lib.hid hr
        clear hr
        go_wp2_with fail
        go_ret
        exact ⟨congrArg (fun z => Ending.returned (Value.int .i64 z)) Hr.out.symm, rfl⟩
      · obtain rfl : j = k := by omega
        have hr := Hr2.out (by omega)
        have Hr := Lib.hid hr
        clear hr
        go_wp2_with fail
        go_ret
        exact ⟨congrArg (fun z => Ending.returned (Value.int .i64 z)) Hr.out.symm, rfl⟩
theorem infoU8 : (Tryd.prog.info? 5).map (fun i => (i.zero, i.size, i.bytes)) = some (some (.int .u8 0), 1, 1) := by kernel_rfl
theorem info_parts' {P : Program} {e : TypeId} {z : Value} {s b : Nat} (h : (P.info? e).map (fun i => (i.zero, i.size, i.bytes)) = some (some z, s, b)) : ∃ i, P.info? e = some i ∧ i.zero = some z ∧ i.size = s ∧ i.bytes = b := by
  obtain ⟨i, hi, hz⟩ := Option.map_eq_some_iff.1 h
  simp only [Prod.mk.injEq] at hz
  exact ⟨i, hi, hz.1, hz.2.1, hz.2.2⟩
theorem strCells_bytes' (s : ByteArray) : Lib.strCells s = Lib.byteCells s.data.toList := by simp [Lib.strCells, Lib.byteCells]
theorem inRow_own' {w : World} {B : Nat} {e : TypeId} {sz n vc : Nat} {vo : Option Addr} {xs : List Value} (h2 : w.ownsRow B e sz (.slice vo n vc) n xs) : ∀ k, InRow vo k → B ≤ k ∧ k < w.heap.size := by
  rintro k ⟨x, rfl, rfl⟩
  rcases ownsRow_addr h2 with ⟨h3, _⟩ | ⟨g, h3, h4, h5⟩
  · cases h3
  · injection h3 with h3
    subst h3
    exact ⟨h4, h5⟩
/-- What zzReplaceAll has gathered. -/
structure Gath (w wr : World) (vo : Option Addr) (vc : Nat) (x : ByteArray) : Prop where
  own : wr.ownsRow w.heap.size 5 1 (.slice vo x.size vc) x.size (Lib.strCells x)
  chg : Chg Nowhere w wr
theorem Gath.more {w wr w' : World} {vo vo' : Option Addr} {vc vc' : Nat} {x y z : ByteArray} (h : Gath w wr vo vc x) (ho : w'.ownsRow w.heap.size 5 1 (.slice vo' (x.size + y.size) vc') (x.size + y.size) (Lib.strCells x ++ Lib.strCells y)) (hc : Chg (InRow vo) wr w') (hz : z = x ++ y) : Gath w w' vo' vc' z := by
  subst hz
  refine ⟨?_, h.chg.trans hc fun k hk hs => absurd (inRow_own' h.own k hs).1 (by omega)⟩
  rw [ByteArray.size_append]
  have e : Lib.strCells (x ++ y) = Lib.strCells x ++ Lib.strCells y := by
    rw [strCells_bytes', strCells_bytes', strCells_bytes', ByteArray.data_append, Array.toList_append]
    simp [Lib.byteCells]
  rw [e]
  exact ho
theorem gath_str {w wr : World} {vo : Option Addr} {vc : Nat} {x : ByteArray} (h : Gath w wr vo vc x) (hx : x.size ≠ 0) : (convert 28 9 (.slice vo x.size vc)).run Tryd.prog wr = .ok (.string x) wr := by
  have hg : ∃ g, vo = some ⟨g, 0, none⟩ := by
    rcases ownsRow_addr h.own with ⟨h1, h2, _⟩ | ⟨g, h1, _⟩
    · omega
    · exact ⟨g, h1⟩
  obtain ⟨g, rfl⟩ := hg
  have hl : x.data.toList.length = x.size := by rw [Array.length_toList]; rfl
  have hh := run_convert_bytes_back (P := Tryd.prog) wr 28 9 5 ⟨g, 0, none⟩ vc x.data.toList Tryd.underlying28 Tryd.underlying5 Tryd.underlying9 (fun j hj => by
    refine h.own.cells (g := g) rfl j _ ?_
    rw [strCells_bytes']
    simp only [Lib.byteCells, List.getElem?_map, List.getElem?_eq_getElem hj, Option.map_some])
  rw [hl] at hh
  exact hh
theorem app_nil (x : ByteArray) : x = x ++ ⟨#[]⟩ := by
  apply ByteArray.ext
  rw [ByteArray.data_append]
  simp
theorem wp_gath0 {ops : Array Oper} {rest : List Oper} {o : Oper} {a : Act} {Q : Exit → Act → World → Prop} (hgd : o.guard = none) (s x : Operand) (ho : o.op = .call { callee := .builtin .append, args := #[s, x], argTypes := #[28, 9] })
    (w : World) (Y : ByteArray) (hs : a.eval s = .slice none 0 0) (hx : a.eval x = .string Y) (hb : Y.size ≤ 8388608) (h : ∀ vo vc w', Gath w w' vo vc Y → wpList Tryd.prog ops Q rest (a.put o.dst (.slice vo Y.size vc)) w') : wpList Tryd.prog ops Q (o :: rest) a w := by
  obtain ⟨i, hi, hz0, hz1, hz2⟩ := info_parts' infoU8
  refine wpList_append_str_fresh w hgd s x 28 9 ho w.heap.size 5 i Tryd.underlying28 Tryd.underlying9 hi hz0 hz1 hz2 none 0 0 [] hs ⟨rfl, .inl ⟨rfl, rfl⟩⟩ Y hx (by unfold maxLen; omega) (by omega) (Nat.le_refl _) ?_
  intro vo vc w' h1 h2 h3
  rw [Nat.zero_add] at h1 ⊢
  exact h vo vc w' ⟨by simpa using h1, h2.mono (fun k hk hs => by obtain ⟨x, hx, _⟩ := hs; cases hx)⟩
theorem wp_gath1 {ops : Array Oper} {rest : List Oper} {o : Oper} {a : Act} {Q : Exit → Act → World → Prop} (hgd : o.guard = none) (s x : Operand) (ho : o.op = .call { callee := .builtin .append, args := #[s, x], argTypes := #[28, 9] })
    (w wr : World) (X Y Z : ByteArray) (vo : Option Addr) (vc : Nat) (hG : Gath w wr vo vc X) (hZ : Z = X ++ Y) (hs : a.eval s = .slice vo X.size vc) (hx : a.eval x = .string Y) (hb1 : X.size ≤ 16777216) (hb : Y.size ≤ 8388608) (h : ∀ vo vc w', Gath w w' vo vc Z → wpList Tryd.prog ops Q rest (a.put o.dst (.slice vo Z.size vc)) w') : wpList Tryd.prog ops Q (o :: rest) a wr := by
  obtain ⟨i, hi, hz0, hz1, hz2⟩ := info_parts' infoU8
  refine wpList_append_str_fresh wr hgd s x 28 9 ho w.heap.size 5 i Tryd.underlying28 Tryd.underlying9 hi hz0 hz1 hz2 vo X.size vc _ hs hG.own Y hx (by unfold maxLen; omega) (by omega) hG.chg.size ?_
  intro vo' vc' w' h1 h2 h3
  have e : Z.size = X.size + Y.size := by rw [hZ, ByteArray.size_append]
  have := h vo' vc' w' (hG.more h1 h2 hZ)
  rw [e] at this
  exact this
/-- It returns the string r; what there was is as it was. -/
def TxtOut (r : ByteArray) (w : World) (e : Ending) (w' : World) : Prop := e = .returned (.string r) ∧ Chg Nowhere w w'
set_option maxHeartbeats 4000000 in
theorem rep13_none (s : ByteArray) (k : Nat) (w : World) (hs : s.size ≤ 4194304) (h0 : s.size ≠ 0) (hk : k ≤ s.size) (hk2 : s.size < k + 2) (hno : ∀ i, i < k → occ s i = false) :
    Calls Tryd.prog 13 #[.string s, .string ⟨#[59, 32]⟩, .string ⟨#[59]⟩] w (TxtOut s w) := by
  have HK := Lib.hid (idx17 s k (-1) w (by omega) hk hno (fun h => by omega) (fun h => by omega) (fun _ => rfl))
  clear hno
  go_enter Tryd.func13, Tryd.ntmps13
  go_wp2_with fail
  go_loopw [0, 7] (fun a d wr => a = .string s ∧ d = .slice none 0 0 ∧ wr = w) (fun _ _ _ => 0)
  case atStart => exact ⟨rfl, rfl, rfl⟩
  case round =>
    obtain ⟨rfl, rfl, rfl⟩ := hrel
    rename World => w0
    go_wp2_with fail
    refine HK.out.mono ?_
    rintro e w1 ⟨rfl, rfl⟩
    rename World => w1
    go_wp2_with (at_builtin; go_loud (refine wp_gath0 rfl (.tmp 14) (.tmp 15) rfl w1 s rfl rfl (by omega) ?_; intro v1 c1 w2 hg; have hcv := gath_str hg h0; have HG1 := Lib.hid hg; clear hg))
    go_ret
    exact ⟨rfl, HG1.out.chg⟩
set_option maxHeartbeats 4000000 in
theorem rep13_one (s p t x : ByteArray) (w : World) (hs : s = p ++ ⟨#[59, 32]⟩ ++ t) (hx : x = p ++ ⟨#[59]⟩) (h2 : p.size ≤ 4194304) (h3 : t.size ≤ 4194304) (h0 : 1 ≤ t.size) (hno : ∀ i, i < p.size → occ s i = false) (hat : occ s p.size = true) (hnt : ∀ i, i < t.size - 1 → occ t i = false) (he : ∀ n, n = s.size → s.extract (p.size + 2) n = t) (hp : s.extract 0 p.size = p) :
    Calls Tryd.prog 13 #[.string s, .string ⟨#[59, 32]⟩, .string ⟨#[59]⟩] w (TxtOut (x ++ t) w) := by
  have hsz : s.size = p.size + 2 + t.size := by rw [hs, ByteArray.size_append, ByteArray.size_append]; rfl
  have hxs : x.size = p.size + 1 := by rw [hx, ByteArray.size_append]; rfl
  have HK := Lib.hid (idx17 s p.size p.size w (by omega) (by omega) hno (fun _ => hat) (fun _ => rfl) (fun h => by omega))
  have HN := Lib.hid (fun w => idx17 t (t.size - 1) (-1) w (by omega) (by omega) hnt (fun h => by omega) (fun h => by omega) (fun _ => rfl))
  have HX := Lib.hid hx
  have HE := Lib.hid he
  have E1 := Lib.hid hp
  clear hno hat hnt hs hx he hp
  obtain ⟨y, hy⟩ : ∃ y, y = x ++ t := ⟨_, rfl⟩
  rw [← hy]
  have hys : y.size = x.size + t.size := by rw [hy]; exact ByteArray.size_append
  have HY := Lib.hid (And.intro hy hys)
  have HXS := Lib.hid hxs
  clear hy hys hxs
  go_enter Tryd.func13, Tryd.ntmps13
  go_wp2_with fail
  go_loopw [0, 7] (fun a d wr => (a = .string s ∧ d = .slice none 0 0 ∧ wr = w) ∨ ∃ vo vc, a = .string t ∧ d = .slice vo x.size vc ∧ Gath w wr vo vc x) (fun a _ _ => match a with | .string x => x.size | _ => 0)
  case atStart => exact .inl ⟨rfl, rfl, rfl⟩
  case round =>
    rcases hrel with ⟨rfl, rfl, rfl⟩ | ⟨vo, vc, rfl, rfl, hg⟩
    · go_wp2_with fail
      refine HK.out.mono ?_
      rintro e w1 ⟨rfl, rfl⟩
      have x0 : ¬ (p.size : Int) < 0 := by omega
      have x1 : (0 : Int) ≤ (p.size : Int) := by omega
      have x2 : (p.size : Int) ≤ (s.size : Int) := by omega
      have x3 : (p.size : Int) + 2 ≤ (s.size : Int) := by omega
      have HS := Lib.hid hsz
      clear hsz
      rename World => w0
      go_wp2_with (first | (at_builtin; go_loud (refine wp_gath0 rfl (.tmp 18) (.tmp 21) rfl w0 p rfl (congrArg Value.string E1.out) (by omega) ?_; intro v1 c1 w1 hg; have HG1 := Lib.hid hg; clear hg)) | (at_builtin; go_loud (refine wp_gath1 rfl (.tmp 22) (.tmp 23) rfl w0 w1 p ⟨#[59]⟩ x v1 c1 HG1.out HX.out rfl rfl (by omega) (by decide) ?_; intro v2 c2 w2 hg; have HG2 := Lib.hid hg; clear hg)))
      go_roundw
      case rel => exact .inr ⟨v2, c2, congrArg Value.string (HE.out _ (by first | rfl | omega)), rfl, HG2.out⟩
      case measure => have := HS.out; rw [HE.out _ (by first | rfl | omega)]; show t.size < s.size; omega
    · have HG := Lib.hid hg
      clear hg hsz
      rename World => w0
      go_wp2_with fail
      refine (HN.out _).mono ?_
      rintro e w1 ⟨rfl, rfl⟩
      rename World => w1
      go_wp2_with (at_builtin; go_loud (refine wp_gath1 rfl (.tmp 14) (.tmp 15) rfl w w1 x t y vo vc HG.out HY.out.1 rfl rfl (by have := HXS.out; omega) (by omega) ?_; intro v2 c2 w2 hg; have hcv := gath_str hg (by have := HY.out.2; omega); have HG2 := Lib.hid hg; clear hg))
      go_ret
      exact ⟨rfl, HG2.out.chg⟩
end Go.Proofs.YtflpmhjfchpplaaDoor
