/-
  Proved: contracts of zzIndex and zzReplaceAll at a path without a backslash. No statement of the seat stands here.
-/
import Derived.Test.YtambbfgmbfamkaaGreatDoorHela
import Derived.Test.YtambbfgmbfamkaaGreatDoorApp
namespace Go.Proofs.YtambbfgmbfamkaaGreatDoor
open Go.RowKit Go.ChangeAt
set_option linter.unusedSimpArgs false
set_option linter.unusedVariables false
set_option maxRecDepth 100000
theorem one_at (s : ByteArray) (i : Nat) (h : i + 1 ≤ s.size) : (s.extract i (i + 1)).toList = [s[i]'(by omega)] := by
  rw [ByteArray.toList_eq, ext_list]
  have h2 : i < s.data.toList.length := by rw [len_list]; omega
  rw [show i + 1 - i = 1 by omega, List.drop_eq_getElem_cons h2]
  rfl
theorem bs_at (s : ByteArray) (i : Nat) (h : i + 1 ≤ s.size) (hno : 92 ∉ s.data.toList) : ((s.extract i (i + 1)).toList == [92]) = false := by
  rw [one_at s i h]
  refine beq_eq_false_iff_ne.2 fun e => hno ?_
  have h2 := get_at_list s i (by omega)
  rw [List.cons.inj e |>.1] at h2
  exact List.mem_of_getElem? h2
theorem idx35 (s : ByteArray) (w : World) (hs : s.size ≤ 16777216) (hno : 92 ∉ s.data.toList) :
    Calls Tryz.prog 35 #[.string s, .string ⟨#[92]⟩] w (IntOut (-1) w) := by
  have Hno := Lib.hid hno
  clear hno
  go_enter Tryz.func35, Tryz.ntmps35
  go_wp2_with fail
  go_loop [5] (fun i => ∃ j : Nat, j ≤ s.size ∧ i = .int .i64 j) (fun i => s.size - (intOf i).toNat)
  case atStart => exact ⟨0, by omega, rfl⟩
  case round =>
    obtain ⟨j, hj, rfl⟩ := hrel
    by_cases hlt : j + 1 ≤ s.size
    · have x1 : (j : Int) + 1 ≤ (s.size : Int) := by omega
      have hst := bs_at s j hlt Hno.out
      have x0 : (0 : Int) ≤ (j : Int) := by omega
      have x2 : ((j : Int) + 1).toNat = j + 1 := by omega
      go_wp2_with fail
      go_round
      case rel => exact ⟨j + 1, by omega, by go_num⟩
      case measure => simp [intOf]; omega
    · have x1 : ¬ (j : Int) + 1 ≤ (s.size : Int) := by omega
      go_wp2_with fail
      go_ret
      exact ⟨rfl, rfl⟩
theorem infoU8 : (Tryz.prog.info? 5).map (fun i => (i.zero, i.size, i.bytes)) = some (some (.int .u8 0), 1, 1) := by kernel_rfl
theorem info_parts' {P : Program} {e : TypeId} {z : Value} {s b : Nat} (h : (P.info? e).map (fun i => (i.zero, i.size, i.bytes)) = some (some z, s, b)) : ∃ i, P.info? e = some i ∧ i.zero = some z ∧ i.size = s ∧ i.bytes = b := by
  obtain ⟨i, hi, hz⟩ := Option.map_eq_some_iff.1 h
  simp only [Prod.mk.injEq] at hz
  exact ⟨i, hi, hz.1, hz.2.1, hz.2.2⟩
theorem strCells_bytes' (s : ByteArray) : Lib.strCells s = Lib.byteCells s.data.toList := by simp [Lib.strCells, Lib.byteCells]
theorem inRow_own' {w : World} {B : Nat} {e : TypeId} {sz n vc : Nat} {vo : Option Addr} {xs : List Value} (h2 : w.ownsRow B e sz (.slice vo n vc) n xs) : ∀ k, InRow vo k → B ≤ k ∧ k < w.heap.size := by
  rintro k ⟨x, rfl, rfl⟩
  rcases ownsRow_addr h2 with ⟨h3, _⟩ | ⟨g, h3, h4, h5⟩
  · cases h3
  · injection h3 with h3
    subst h3
    exact ⟨h4, h5⟩
/-- What zzReplaceAll has gathered. -/
structure Gath (w wr : World) (vo : Option Addr) (vc : Nat) (x : ByteArray) : Prop where
  own : wr.ownsRow w.heap.size 5 1 (.slice vo x.size vc) x.size (Lib.strCells x)
  chg : Chg Nowhere w wr
theorem Gath.more {w wr w' : World} {vo vo' : Option Addr} {vc vc' : Nat} {x y z : ByteArray} (h : Gath w wr vo vc x) (ho : w'.ownsRow w.heap.size 5 1 (.slice vo' (x.size + y.size) vc') (x.size + y.size) (Lib.strCells x ++ Lib.strCells y)) (hc : Chg (InRow vo) wr w') (hz : z = x ++ y) : Gath w w' vo' vc' z := by
  subst hz
  refine ⟨?_, h.chg.trans hc fun k hk hs => absurd (inRow_own' h.own k hs).1 (by omega)⟩
  rw [ByteArray.size_append]
  have e : Lib.strCells (x ++ y) = Lib.strCells x ++ Lib.strCells y := by
    rw [strCells_bytes', strCells_bytes', strCells_bytes', ByteArray.data_append, Array.toList_append]
    simp [Lib.byteCells]
  rw [e]
  exact ho
theorem gath_str {w wr : World} {vo : Option Addr} {vc : Nat} {x : ByteArray} (h : Gath w wr vo vc x) (hx : x.size ≠ 0) : (convert 27 9 (.slice vo x.size vc)).run Tryz.prog wr = .ok (.string x) wr := by
  have hg : ∃ g, vo = some ⟨g, 0, none⟩ := by
    rcases ownsRow_addr h.own with ⟨h1, h2, _⟩ | ⟨g, h1, _⟩
    · omega
    · exact ⟨g, h1⟩
  obtain ⟨g, rfl⟩ := hg
  have hl : x.data.toList.length = x.size := by rw [Array.length_toList]; rfl
  have hh := run_convert_bytes_back (P := Tryz.prog) wr 27 9 5 ⟨g, 0, none⟩ vc x.data.toList Tryz.underlying27 Tryz.underlying5 Tryz.underlying9 (fun j hj => by
    refine h.own.cells (g := g) rfl j _ ?_
    rw [strCells_bytes']
    simp only [Lib.byteCells, List.getElem?_map, List.getElem?_eq_getElem hj, Option.map_some])
  rw [hl] at hh
  exact hh
theorem app_nil (x : ByteArray) : x = x ++ ⟨#[]⟩ := by
  apply ByteArray.ext
  rw [ByteArray.data_append]
  simp
theorem wp_gath0 {ops : Array Oper} {rest : List Oper} {o : Oper} {a : Act} {Q : Exit → Act → World → Prop} (hgd : o.guard = none) (s x : Operand) (ho : o.op = .call { callee := .builtin .append, args := #[s, x], argTypes := #[27, 9] })
    (w : World) (Y : ByteArray) (hs : a.eval s = .slice none 0 0) (hx : a.eval x = .string Y) (hb : Y.size ≤ 8388608) (h : ∀ vo vc w', Gath w w' vo vc Y → wpList Tryz.prog ops Q rest (a.put o.dst (.slice vo Y.size vc)) w') : wpList Tryz.prog ops Q (o :: rest) a w := by
  obtain ⟨i, hi, hz0, hz1, hz2⟩ := info_parts' infoU8
  refine wpList_append_str_fresh w hgd s x 27 9 ho w.heap.size 5 i Tryz.underlying27 Tryz.underlying9 hi hz0 hz1 hz2 none 0 0 [] hs ⟨rfl, .inl ⟨rfl, rfl⟩⟩ Y hx (by unfold maxLen; omega) (by omega) (Nat.le_refl _) ?_
  intro vo vc w' h1 h2 h3
  rw [Nat.zero_add] at h1 ⊢
  exact h vo vc w' ⟨by simpa using h1, h2.mono (fun k hk hs => by obtain ⟨x, hx, _⟩ := hs; cases hx)⟩
theorem wp_gath1 {ops : Array Oper} {rest : List Oper} {o : Oper} {a : Act} {Q : Exit → Act → World → Prop} (hgd : o.guard = none) (s x : Operand) (ho : o.op = .call { callee := .builtin .append, args := #[s, x], argTypes := #[27, 9] })
    (w wr : World) (X Y Z : ByteArray) (vo : Option Addr) (vc : Nat) (hG : Gath w wr vo vc X) (hZ : Z = X ++ Y) (hs : a.eval s = .slice vo X.size vc) (hx : a.eval x = .string Y) (hb1 : X.size ≤ 16777216) (hb : Y.size ≤ 8388608) (h : ∀ vo vc w', Gath w w' vo vc Z → wpList Tryz.prog ops Q rest (a.put o.dst (.slice vo Z.size vc)) w') : wpList Tryz.prog ops Q (o :: rest) a wr := by
  obtain ⟨i, hi, hz0, hz1, hz2⟩ := info_parts' infoU8
  refine wpList_append_str_fresh wr hgd s x 27 9 ho w.heap.size 5 i Tryz.underlying27 Tryz.underlying9 hi hz0 hz1 hz2 vo X.size vc _ hs hG.own Y hx (by unfold maxLen; omega) (by omega) hG.chg.size ?_
  intro vo' vc' w' h1 h2 h3
  have e : Z.size = X.size + Y.size := by rw [hZ, ByteArray.size_append]
  have := h vo' vc' w' (hG.more h1 h2 hZ)
  rw [e] at this
  exact this
/-- It returns the string r; what there was is as it was. -/
def TxtOut (r : ByteArray) (w : World) (e : Ending) (w' : World) : Prop := e = .returned (.string r) ∧ Chg Nowhere w w'
set_option maxHeartbeats 4000000 in
theorem rep22 (s : ByteArray) (w : World) (hs : s.size ≤ 4194304) (h0 : s.size ≠ 0) (hno : 92 ∉ s.data.toList) :
    Calls Tryz.prog 22 #[.string s, .string ⟨#[92]⟩, .string ⟨#[47]⟩] w (TxtOut s w) := by
  have HK := Lib.hid (idx35 s w (by omega) hno)
  clear hno
  go_enter Tryz.func22, Tryz.ntmps22
  go_wp2_with fail
  go_loopw [0, 7] (fun a d wr => a = .string s ∧ d = .slice none 0 0 ∧ wr = w) (fun _ _ _ => 0)
  case atStart => exact ⟨rfl, rfl, rfl⟩
  case round =>
    obtain ⟨rfl, rfl, rfl⟩ := hrel
    rename World => w0
    go_wp2_with fail
    refine HK.out.mono ?_
    rintro e w1 ⟨rfl, rfl⟩
    rename World => w1
    go_wp2_with (at_builtin; go_loud (refine wp_gath0 rfl (.tmp 14) (.tmp 15) rfl w1 s rfl rfl (by omega) ?_; intro v1 c1 w2 hg; have hcv := gath_str hg h0; have HG1 := Lib.hid hg; clear hg))
    go_ret
    exact ⟨rfl, HG1.out.chg⟩
end Go.Proofs.YtambbfgmbfamkaaGreatDoor
