/-
  Proved: contracts of net/url's percent decoding at this program. No statement of the seat stands here.
-/
import Derived.Test.YtmhjhipldabaoaaFmtRows
import Derived.Test.YtmhjhipldabaoaaFmtBase
import Derived.Test.YtmhjhipldabaoaaFmtPlain
import Derived.Test.YtmhjhipldabaoaaFmtShelf
import Derived.LaidEqlPtr
import Derived.StillTailTactics
import Derived.Deep.RegionWith
import Derived.Outline
namespace Go.Proofs.YtmhjhipldabaoaaFmt
open Go.RowKit Go.ChangeAt
set_option linter.unusedSimpArgs false
set_option linter.unusedVariables false

def bt (s : ByteArray) (i : Nat) : Nat := if h : i < s.size then (s[i]'h).toNat else 0
theorem bt_lt (s : ByteArray) (i : Nat) : bt s i < 256 := by
  unfold bt
  split
  · exact UInt8.toNat_lt _
  · omega
theorem bt_eq (s : ByteArray) (i : Nat) (h : i < s.size) : (s[i]'h).toNat = bt s i := by unfold bt; rw [dif_pos h]

/-- The table of net/url says of each byte whether it is a hexadecimal digit. -/
def HexTab (w : World) : Prop := ∀ c : Nat, c < 256 → ∃ v, w.cell? ⟨0, c, none⟩ = some (.int .u8 v) ∧ (bits .and .u8 v 128 != 0) = isHex c
theorem HexTab.below {w w' : World} {B : Nat} (h : HexTab w) (hb : Below B w w') (hB : 0 < B) : HexTab w' := fun c hc => by
  obtain ⟨v, h1, h2⟩ := h c hc
  exact ⟨v, by rw [hb.cell (p := ⟨0, c, none⟩) hB]; exact h1, h2⟩

theorem ishex_any (c : Nat) (hc : c < 256) (x : Int) (hx : x = c) (w : World) (hT : HexTab w) : Calls Tryf.prog 25 #[.int .u8 x] w fun e w' => e = .returned (.bool (isHex c)) ∧ w = w' := by
  subst hx
  obtain ⟨v, h1, h2⟩ := hT c hc
  have H2 := Lib.hid h2
  clear hT h2
  go_enter Tryf.func25, Tryf.ntmps25
  go_wp2
  go_ret
  exact ⟨by rw [← H2.out]; rfl, rfl⟩

theorem unhex_any (c : Nat) (h : isHex c = true) (x : Int) (hx : x = c) (w : World) : Calls Tryf.prog 26 #[.int .u8 x] w fun e w' => e = .returned (.int .u8 (hexV c)) ∧ w = w' := by
  subst hx
  have hc : c < 103 := by simp [isHex] at h; omega
  have hv : 9 * ((c : Int) / 64) + (c : Int) % 16 = (hexV c : Nat) := by
    unfold hexV
    simp [isHex] at h
    split
    · omega
    · split <;> omega
  have H := Lib.hid hv
  clear hv h
  go_enter Tryf.func26, Tryf.ntmps26
  go_wp2
  go_ret
  exact ⟨by rw [← H.out]; rfl, rfl⟩

theorem run_neq_ptr_same {P : Program} (w : World) {tp te : TypeId} {j : TypeInfo} (a : Addr) (hp : P.underlying tp = some (.pointer te)) (hte : P.info? te = some j) :
    (binOp .neq tp (.pointer (some a)) (.pointer (some a))).run P w = .ok (.bool false) w := by
  have h : ∀ d : Nat, (Op.equalIn (d + 1) tp (.pointer (some a)) (.pointer (some a))).run P w = .ok true w := fun d => by
    simp [Op.equalIn, run_underlying hp, sizeOf, typeInfo, hte, run_sameAddr_same]
  simp only [binOp]
  simp [Op.equal, Op.maxDepth, h 9999]

theorem info76 : (Tryf.prog.info? 76).map (fun i => (i.zero, i.size, i.bytes)) = some (some (.agg #[.pointer none, .slice none 0 0]), 2, 32) := by kernel_rfl
theorem info5 : (Tryf.prog.info? 5).map (fun i => (i.zero, i.size, i.bytes)) = some (some (.int .u8 0), 1, 1) := by kernel_rfl

theorem copyCheck_used (b : Nat) (w : World) (h0 : w.cell? ⟨b, 0, none⟩ = some (.pointer (some ⟨b, 0, none⟩))) :
    Calls Tryf.prog 31 #[.pointer (some ⟨b, 0, none⟩)] w fun e w' => e = .returned (.tuple #[]) ∧ w = w' := by
  obtain ⟨j0, hj, _, _, _⟩ := info_parts info76
  have hq := run_neq_ptr_same (P := Tryf.prog) w (te := 76) ⟨b, 0, none⟩ Tryf.underlying74 hj
  clear hj
  go_enter Tryf.func31, Tryf.ntmps31
  go_wp2
  go_end0
  exact ⟨rfl, rfl⟩

abbrev Bld (B b : Nat) (bs : List Value) (w : World) : Prop := Lib.BuilderAt 76 5 B b (.pointer (some ⟨b, 0, none⟩)) bs w
theorem bld_form {B b : Nat} {bs : List Value} {w : World} (h : Bld B b bs w) : ∃ vo vc, w.heap[b]? = some (.cells #[.pointer (some ⟨b, 0, none⟩), .slice vo bs.length vc] 76 (0, 0)) ∧ w.ownsRow B 5 1 (.slice vo bs.length vc) bs.length bs ∧ (∀ x, vo = some x → x.block ≠ b) := by
  obtain ⟨hB, v, hb, hown, hne⟩ := h
  rcases hown.2 with ⟨rfl, h0⟩ | ⟨g, cap, cur, rfl, h1, h2, h3⟩
  · exact ⟨none, 0, by rw [h0]; exact hb, by rw [h0]; simpa [h0] using hown, fun _ h => by cases h⟩
  · exact ⟨_, _, hb, hown, fun x hx => by injection hx with hx; subst hx; intro he; exact hne (by simp only [Value.ownBlock]; exact congrArg some he)⟩

def Wrote (B b : Nat) (bs : List Value) (w : World) (e : Ending) (w' : World) : Prop := e = .returned .nilIface ∧ Bld B b bs w' ∧ Below B w w'
theorem write_any (B b : Nat) (bs : List Value) (c : Int) (w : World) (h : Bld B b bs w) (hlen : bs.length ≤ 4194304) (hBw : B ≤ w.heap.size) :
    Calls Tryf.prog 29 #[.pointer (some ⟨b, 0, none⟩), .int .u8 c] w (Wrote B b (bs ++ [.int .u8 c]) w) := by
  obtain ⟨i0, hi, hz0, hz1, hz2⟩ := info_parts info5
  obtain ⟨vo, vc, hblk, hown, hsep⟩ := bld_form h
  have hB := h.1
  have hc0 := cell_of_heap hblk 0
  have hc := cell_of_heap hblk 1
  simp at hc hc0
  have hsz := heap_lt hblk
  clear h
  go_enter Tryf.func29, Tryf.ntmps29
  go_wp2_with (first | (go_at_call 31; refine (copyCheck_used b w hc0).mono ?_; rintro e w' ⟨rfl, rfl⟩) | (at_builtin; go_loud (refine wpList_append_fresh _ rfl (.tmp 11) (.tmp 13) 57 rfl B 5 i0 _ 1 1 Tryf.underlying57 hi hz0 hz1 hz2 rfl (by decide) vo bs.length vc bs rfl (hown.alloc _) (some ⟨w.heap.size, 0, none⟩) 1 1 [.int .u8 c] rfl rfl (by simp) (cells_new w _ _) (by intro u hu; simp at hu; subst hu; rfl) (by unfold maxLen; omega) (by omega) (by simp; omega) ?_; intro vo' vc' w1 hown1 hg1 hf1; have hb1 := hg1.heap ((heap_alloc_old w _ hsz).trans hblk) (fun ⟨x, h1, h2⟩ => hsep x h1 h2); have c1 := cell_of_heap hb1 1; have f1 := frozen_of_heap hb1 1; simp only [List.getElem?_toArray, List.getElem?_cons_zero, List.getElem?_cons_succ] at c1)))
  go_ret
  have hsz1 := hg1.size
  simp at hsz1
  have hsep1 : ∀ x, vo' = some x → x.block ≠ b := by
    intro x hx
    rcases hf1 with h | h
    · exact hsep x (h ▸ hx)
    · rw [h] at hx
      injection hx with hx
      subst hx
      simp
      omega
  refine ⟨rfl, ⟨hB, _, heap_setCell hb1 1 _, ?_, ?_⟩, ?_⟩
  · have h2 := (Chg.refl (fun k => k = b) w1).setCell (p := ⟨b, 1, none⟩) (fun _ => rfl) (.slice vo' (bs.length + 1) vc')
    have hl : (bs ++ [Value.int .u8 c]).length = bs.length + 1 := by simp
    rw [hl]
    refine h2.owns hown1 ?_
    intro k hk
    cases vo' with
    | none => simp [Value.ownBlock] at hk
    | some x =>
      simp [Value.ownBlock] at hk
      subst hk
      exact hsep1 x rfl
  · cases vo' with
    | none => simp [Value.ownBlock]
    | some x => simp [Value.ownBlock]; exact hsep1 x rfl
  · have hrow : ∀ k, k < (w.alloc (.cells #[.int .u8 c] 5)).heap.size → InRow vo k → B ≤ k := by
      rintro k _ ⟨x, hx, rfl⟩
      rcases ownsRow_addr hown with ⟨h1, _⟩ | ⟨g, h1, h2, _⟩
      · rw [h1] at hx; cases hx
      · rw [h1] at hx
        injection hx with hx
        subst hx
        exact h2
    exact (((Below.refl B w).alloc hBw _).trans (hg1.below (by simp; omega) hrow)).setCell hB _

theorem unhex_still (c : Nat) (h : isHex c = true) (w : World) : Calls Tryf.prog 26 #[.int .u8 c] w fun e w' => e = .returned (.int .u8 (hexV c)) ∧ w' = w :=
  (unhex_any c h _ rfl w).mono fun _ _ ⟨h1, h2⟩ => ⟨h1, h2.symm⟩
/-- A refusal: the empty string and an error. -/
def Refused (w : World) (e : Ending) (w' : World) : Prop := ∃ x, e = .returned (.tuple #[.string ⟨#[]⟩, .iface 69 x]) ∧ w = w'

theorem or_eq : ∀ x y : Nat, x < 16 → y < 16 → bits BinOp.or IntKind.u8 ((x : Int) * 16 % 256) (y : Int) = ((x * 16 + y : Nat) : Int) := by
  have h : ∀ x : Nat, x < 16 → ∀ y : Nat, y < 16 → bits BinOp.or IntKind.u8 ((x : Int) * 16 % 256) (y : Int) = ((x * 16 + y : Nat) : Int) := by decide +kernel
  exact fun x y hx hy => h x hx y hy
theorem escV_lt {a b : Nat} (ha : isHex a = true) (hb : isHex b = true) : escV a b < 256 := by
  have := hexV_lt ha
  have := hexV_lt hb
  unfold escV
  omega
theorem byteCells_snoc (l : List UInt8) (v : Nat) (hv : v < 256) : Lib.byteCells (l ++ [UInt8.ofNat v]) = Lib.byteCells l ++ [.int .u8 v] := by
  have h : (UInt8.ofNat v).toNat = v := by simp; omega
  simp only [Lib.byteCells, List.map_append, List.map_cons, List.map_nil, h]

def UnOut (s : ByteArray) (w : World) (e : Ending) (w' : World) : Prop :=
  (dec (bt s) s.size 0 = none → Refused w e w') ∧ ∀ out sl, dec (bt s) s.size 0 = some (out, sl) → e = .returned (.tuple #[.string ⟨out.toArray⟩, .nilIface]) ∧ Below w.heap.size w w'
theorem un_none {s : ByteArray} {w w' : World} {e : Ending} (h : dec (bt s) s.size 0 = none) (hr : Refused w e w') : UnOut s w e w' := ⟨fun _ => hr, fun _ _ h' => by rw [h] at h'; cases h'⟩
theorem un_some {s : ByteArray} {w w' : World} {e : Ending} {out : List UInt8} {sl : Bool} (h : dec (bt s) s.size 0 = some (out, sl)) (hr : e = .returned (.tuple #[.string ⟨out.toArray⟩, .nilIface]) ∧ Below w.heap.size w w') : UnOut s w e w' := by
  constructor
  · intro h'; rw [h] at h'; cases h'
  · intro o2 s2 h'
    rw [h] at h'
    injection h' with h'
    injection h' with h1 h2
    subst h1
    exact hr
theorem list_of_bt (s : ByteArray) : (⟨((List.range s.size).map fun j => UInt8.ofNat (bt s j)).toArray⟩ : ByteArray) = s := by
  apply ByteArray.ext
  apply Array.ext
  · simp
  · intro i h1 h2
    have h3 : i < s.size := by simpa using h2
    have h4 := bt_eq s i h3
    simp only [List.getElem_toArray, List.getElem_map, List.getElem_range]
    rw [← h4]
    simp
    rfl

set_option maxRecDepth 100000 in
set_option maxHeartbeats 2000000 in
theorem unesc_any (s : ByteArray) (hs : s.size ≤ 1048576) (w : World) (hT : HexTab w) : Calls Tryf.prog 22 #[.string s, .int .u8 2] w (UnOut s w) := by
  have HT := Lib.hid hT
  clear hT
  go_enter Tryf.func22, Tryf.ntmps22
  go_wp2
  go_loop [0, 6, 7, 8] (fun v0 vn vp vi => ∃ i out k sl, Al (bt s) s.size i out k sl ∧ i ≤ s.size ∧ v0 = .string s ∧ vi = .int .i64 (i : Nat) ∧ vn = .int .i64 (k : Nat) ∧ vp = .bool false) (fun _ _ _ vi => s.size - (intOf vi).toNat)
  case atStart => exact ⟨0, [], 0, false, .nil, by omega, rfl, rfl, rfl, rfl⟩
  case round =>
    obtain ⟨i, out, k, sl, hal, hi, rfl, rfl, rfl, rfl⟩ := hrel
    have hk0 := hal.length
    have hk : 2 * k ≤ i := by omega
    clear hk0
    have Hal := Lib.hid hal
    clear hal
    by_cases hlt : i < s.size
    · have hb := bt_eq s i hlt
      by_cases hc : bt s i = 37
      · by_cases h2 : i + 2 < s.size
        · have hb1 := bt_eq s (i + 1) (by omega)
          have hb2 := bt_eq s (i + 2) h2
          have hx1 : ((i : Int) + 1) < (s.size : Int) := by omega
          have hx2 : ((i : Int) + 2) < (s.size : Int) := by omega
          have hxx : decide ((s.size : Int) ≤ (i : Int) + 2) = false := by simp; omega
          cases ha : isHex (bt s (i + 1))
          · go_wp2_with (go_at_call 25; refine (ishex_any _ (bt_lt s (i + 1)) _ rfl _ HT.out).mono ?_; rintro e w' ⟨rfl, rfl⟩)
            all_goals (
              go_ret2
              refine un_none (Al.bad Hal.out hlt hc (by simp [ha])) ⟨_, rfl, rfl⟩)
          · cases hh : isHex (bt s (i + 2))
            · go_wp2_with (go_at_call 25; refine (ishex_any _ (bt_lt s _) _ rfl _ HT.out).mono ?_; rintro e w' ⟨rfl, rfl⟩)
              all_goals (
                go_ret2
                refine un_none (Al.bad Hal.out hlt hc (by simp [hh])) ⟨_, rfl, rfl⟩)
            · have Hn : Hid (Al (bt s) s.size (i + 3) _ (k + 1) _) := Al.esc Hal.out h2 hc ha hh
              go_wp2_with (go_at_call 25; refine (ishex_any _ (bt_lt s _) _ rfl _ HT.out).mono ?_; rintro e w' ⟨rfl, rfl⟩)
              go_round
              case rel => exact ⟨i + 3, _, k + 1, _, Hn.out, by omega, rfl, by go_num, by go_num, rfl⟩
              case measure => simp [intOf]; omega
        · have hxx : decide ((s.size : Int) ≤ (i : Int) + 2) = true := by simp; omega
          go_wp2
          all_goals (
            go_ret2
            refine un_none (Al.bad Hal.out hlt hc (by intro h; omega)) ⟨_, rfl, rfl⟩)
      · have Hn : Hid (Al (bt s) s.size (i + 1) _ k _) := Al.plain Hal.out hlt hc
        have hc1 : ((bt s i : Int) == 37) = false := by simp; omega
        by_cases hp : bt s i = 43
        · go_wp2
          go_round
          case rel => exact ⟨i + 1, _, k, _, Hn.out, by omega, rfl, by go_num, rfl, rfl⟩
          case measure => simp [intOf]; omega
        · have hp1 : ((bt s i : Int) == 43) = false := by simp; omega
          go_wp2
          go_round
          case rel => exact ⟨i + 1, _, k, _, Hn.out, by omega, rfl, by go_num, rfl, rfl⟩
          case measure => simp [intOf]; omega
    · obtain rfl : i = s.size := by omega
      by_cases hk0 : k = 0
      · subst hk0
        have Hn := Lib.hid (Hal.out.none rfl)
        go_wp2
        go_ret2
        have he : (⟨out.toArray⟩ : ByteArray) = s := by rw [Hn.out.1, list_of_bt]
        exact un_some Hal.out.whole ⟨by rw [he]; rfl, Below.refl _ _⟩
      · have hkx : ((k : Int) == 0) = false := by simp; omega
        have Hlen : Hid ((s.size : Int) - 2 * (k : Int) = ((s.size - 2 * k : Nat) : Int)) := by show _ = _; omega
        have Hwh := Lib.hid Hal.out.whole
        clear Hal
        go_wp2_with fail
        rw [Hlen.out]
        refine (Tryf.Builder_Grow_fresh w.heap.size w.heap.size (s.size - 2 * k) _ (Nat.le_refl _) (heap_alloc_new w _) (by simp) (by omega)).mono ?_
        rintro e w1 ⟨rfl, hbld, hbel⟩
        have Hbld := Lib.hid hbld
        have Hbel : Hid (Below w.heap.size w w1) := ((Below.refl _ w).alloc (Nat.le_refl _) _).trans hbel
        clear hbld hbel
        go_wp2
        go_loopw [12] (fun vi wr => ∃ i out2 k2 sl2, Al (bt s) s.size i out2 k2 sl2 ∧ i ≤ s.size ∧ vi = .int .i64 (i : Nat) ∧ Bld w.heap.size w.heap.size (Lib.byteCells out2) wr ∧ Below w.heap.size w wr) (fun vi _ => s.size - (intOf vi).toNat)
        case atStart => exact ⟨0, [], 0, false, .nil, by omega, rfl, Hbld.out, Hbel.out⟩
        case round =>
          obtain ⟨i, out2, k2, sl2, hal, hi2, rfl, hbld, hbel⟩ := hrel
          have hk2 := hal.length
          have hol : out2.length ≤ 1048576 := by omega
          clear hk2
          have Hal := Lib.hid hal; have Hbld2 := Lib.hid hbld; have Hbel2 := Lib.hid hbel
          have hsw : w.heap.size ≤ wr.heap.size := hbel.size
          have hbl : (Lib.byteCells out2).length ≤ 4194304 := by rw [Lib.byteCells_length]; omega
          clear hal hbld hbel
          by_cases hlt2 : i < s.size
          · have hb := bt_eq s i hlt2
            by_cases hc : bt s i = 37
            · have hgood : i + 2 < s.size ∧ isHex (bt s (i + 1)) = true ∧ isHex (bt s (i + 2)) = true := by
                by_cases hg : i + 2 < s.size ∧ isHex (bt s (i + 1)) = true ∧ isHex (bt s (i + 2)) = true
                · exact hg
                · have := Al.bad Hal.out hlt2 hc hg
                  rw [Hwh.out] at this
                  cases this
              obtain ⟨h2, ha, hh⟩ := hgood
              have Hn : Hid (Al (bt s) s.size (i + 3) _ (k2 + 1) _) := Al.esc Hal.out h2 hc ha hh
              have Ha := Lib.hid ha; have Hh := Lib.hid hh
              clear ha hh
              have hb1 := bt_eq s (i + 1) (by omega)
              have hb2 := bt_eq s (i + 2) h2
              have hx1 : ((i : Int) + 1) < (s.size : Int) := by omega
              have hx2 : ((i : Int) + 2) < (s.size : Int) := by omega
              have hz1 : (0 : Int) ≤ (i : Int) + 1 := by omega
              have ht1 : ((i : Int) + 1).toNat = i + 1 := by omega
              have ht2 : ((i : Int) + 2).toNat = i + 2 := by omega
              have hz2 : (0 : Int) ≤ (i : Int) + 2 := by omega
              have hw1 : IntKind.i64.wrap ((i : Int) + 1) = (i : Int) + 1 := IntWalk.i64_in _ (by omega)
              have hw2 : IntKind.i64.wrap ((i : Int) + 2) = (i : Int) + 2 := IntWalk.i64_in _ (by omega)
              go_wp2
              go_still_tail 12, (by kernel_rfl)
              still_call (unhex_still _ Ha.out _)
              repeat still_step
              still_call (unhex_still _ Hh.out _)
              repeat still_step
              refine wpStill_nil ?_
              change wpList _ _ _ _ _ wr.drew
              clear hw1 hw2 ht1 ht2 hz1 hz2
              go_wp2_with fail
              rw [or_eq _ _ (hexV_lt Ha.out) (hexV_lt Hh.out)]
              refine (write_any w.heap.size w.heap.size _ _ wr.drew Hbld2.out hbl (by simpa using hsw)).mono ?_
              rintro e w2 ⟨rfl, hbld3, hbel3⟩
              have Hbld3 : Hid (Bld w.heap.size w.heap.size (Lib.byteCells (out2 ++ [UInt8.ofNat (escV (bt s (i + 1)) (bt s (i + 2)))])) w2) := by
                rw [byteCells_snoc _ _ (escV_lt Ha.out Hh.out)]; exact hbld3
              have Hbel3 : Hid (Below w.heap.size w w2) := (Hbel2.out.drew).trans hbel3
              clear hbld3 hbel3
              go_wp2
              go_roundw
              case rel => exact ⟨i + 3, _, k2 + 1, _, Hn.out, by omega, by go_num, Hbld3.out, Hbel3.out⟩
              case measure => simp [intOf]; omega
            · have hc1 : ((bt s i : Int) == 37) = false := by simp; omega
              have Hn : Hid (Al (bt s) s.size (i + 1) _ k2 _) := Al.plain Hal.out hlt2 hc
              by_cases hp : bt s i = 43
              · go_wp2_with fail
                refine (write_any w.heap.size w.heap.size _ _ wr Hbld2.out hbl hsw).mono ?_
                rintro e w2 ⟨rfl, hbld3, hbel3⟩
                have Hbld3 : Hid (Bld w.heap.size w.heap.size (Lib.byteCells (out2 ++ [UInt8.ofNat (bt s i)])) w2) := by
                  rw [byteCells_snoc _ _ (bt_lt s i), hp]; exact hbld3
                have Hbel3 : Hid (Below w.heap.size w w2) := Hbel2.out.trans hbel3
                clear hbld3 hbel3
                go_wp2
                go_roundw
                case rel => exact ⟨i + 1, _, k2, _, Hn.out, by omega, by go_num, Hbld3.out, Hbel3.out⟩
                case measure => simp [intOf]; omega
              · have hp1 : ((bt s i : Int) == 43) = false := by simp; omega
                go_wp2_with fail
                refine (write_any w.heap.size w.heap.size _ _ wr Hbld2.out hbl hsw).mono ?_
                rintro e w2 ⟨rfl, hbld3, hbel3⟩
                have Hbld3 : Hid (Bld w.heap.size w.heap.size (Lib.byteCells (out2 ++ [UInt8.ofNat (bt s i)])) w2) := by
                  rw [byteCells_snoc _ _ (bt_lt s i)]; exact hbld3
                have Hbel3 : Hid (Below w.heap.size w w2) := Hbel2.out.trans hbel3
                clear hbld3 hbel3
                go_wp2
                go_roundw
                case rel => exact ⟨i + 1, _, k2, _, Hn.out, by omega, by go_num, Hbld3.out, Hbel3.out⟩
                case measure => simp [intOf]; omega
          · obtain rfl : i = s.size := by omega
            go_wp2_with fail
            refine (Tryf.Builder_String_any w.heap.size w.heap.size out2 wr (.inr Hbld2.out) hsw).mono ?_
            rintro e w2 ⟨rfl, hbel3⟩
            have Hbel3 : Hid (Below w.heap.size w w2) := Hbel2.out.trans hbel3
            clear hbel3
            go_wp2
            go_ret2
            exact un_some Hal.out.whole ⟨rfl, Hbel3.out⟩
end Go.Proofs.YtmhjhipldabaoaaFmt
