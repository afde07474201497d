/-
  Proved: contract of the law's own decoder at this program (zzDecode). No statement of the seat stands here.
-/
import Derived.Test.YtmhjhipldabaoaaFmtZz
namespace Go.Proofs.YtmhjhipldabaoaaFmt
open Go.RowKit Go.ChangeAt
set_option linter.unusedSimpArgs false
set_option linter.unusedVariables false
theorem make0 (n : Nat) (hn : n ≤ 1048576) (W : World) : (Instr.makeSlice 57 (.int .i64 0) (.int .i64 n)).run Tryf.prog W = .ok (.slice (some ⟨W.heap.size, 0, none⟩) 0 n) (W.alloc (.cells (madeCells #[.int .u8 0] n) 5)) := by
  obtain ⟨i0, hi, hz0, hz1, hz2⟩ := info_parts info5
  have h := run_make (P := Tryf.prog) W 57 5 i0 _ Tryf.underlying57 hi hz0 .i64 .i64 0 n (by omega) (by omega) (by rw [hz2]; omega) (by omega)
  rw [h, hz1]
  simp [Value.cells]
theorem made0 (n : Nat) (hn : n ≤ 1048576) (W : World) : (W.alloc (.cells (madeCells #[.int .u8 0] n) 5)).ownsRow W.heap.size 5 1 (.slice (some ⟨W.heap.size, 0, none⟩) 0 n) 0 [] :=
  World.ownsRow_made W _ n (Nat.le_refl _) (by unfold maxLen; omega) (by rw [size_madeCells]; omega)
theorem back0 {w : World} {B : Nat} {a : Addr} {vc : Nat} {out : List UInt8} (h : w.ownsRow B 5 1 (.slice (some a) out.length vc) out.length (Lib.byteCells out)) :
    (convert 57 9 (.slice (some a) out.length vc)).run Tryf.prog w = .ok (.string ⟨out.toArray⟩) w := by
  refine run_convert_bytes_back w 57 9 5 a vc out Tryf.underlying57 Tryf.underlying5 Tryf.underlying9 fun j hj => ?_
  rcases ownsRow_addr h with ⟨h1, _⟩ | ⟨g, h1, _⟩
  · cases h1
  · injection h1 with h1
    subst h1
    exact h.cells (g := g) rfl j _ (by simp [Lib.byteCells, hj])
def DecOut (s : ByteArray) (w : World) (e : Ending) (w' : World) : Prop :=
  (dec (bt s) s.size 0 = none → e = .returned (.tuple #[.string ⟨#[]⟩, .bool false, .bool false])) ∧ (∀ out sl, dec (bt s) s.size 0 = some (out, sl) → e = .returned (.tuple #[.string ⟨out.toArray⟩, .bool true, .bool sl])) ∧ Below w.heap.size w w'
theorem dec_none {s : ByteArray} {w w' : World} {e : Ending} (h : dec (bt s) s.size 0 = none) (he : e = .returned (.tuple #[.string ⟨#[]⟩, .bool false, .bool false])) (hb : Below w.heap.size w w') : DecOut s w e w' := ⟨fun _ => he, fun _ _ h' => (by rw [h] at h'; cases h'), hb⟩
theorem dec_some {s : ByteArray} {w w' : World} {e : Ending} {out : List UInt8} {sl : Bool} (h : dec (bt s) s.size 0 = some (out, sl)) (he : e = .returned (.tuple #[.string ⟨out.toArray⟩, .bool true, .bool sl])) (hb : Below w.heap.size w w') : DecOut s w e w' := by
  refine ⟨fun h' => (by rw [h] at h'; cases h'), fun o2 s2 h' => ?_, hb⟩
  rw [h] at h'
  injection h' with h'
  injection h' with h1 h2
  subst h1 h2
  exact he
/-- What the loop holds: the row of what is decoded so far. -/
def Row (w wr : World) (g vc : Nat) (out : List UInt8) : Prop := wr.ownsRow w.heap.size 5 1 (.slice (some ⟨g, 0, none⟩) out.length vc) out.length (Lib.byteCells out) ∧ Below w.heap.size w wr
theorem Row.push {w wr w1 : World} {g vc v vc' : Nat} {out : List UInt8} {vo' : Option Addr} (hr : Row w wr g vc out) (hv : v < 256)
    (hown1 : w1.ownsRow w.heap.size 5 1 (.slice vo' (out.length + 1) vc') (out.length + 1) (Lib.byteCells out ++ [.int .u8 v]))
    (hg1 : Chg (InRow (some ⟨g, 0, none⟩)) (wr.alloc (.cells #[.int .u8 v] 5)) w1)
    (hf1 : vo' = some ⟨g, 0, none⟩ ∨ vo' = some ⟨(wr.alloc (.cells #[.int .u8 v] 5)).heap.size, 0, none⟩) : ∃ g', vo' = some ⟨g', 0, none⟩ ∧ Row w w1 g' vc' (out ++ [UInt8.ofNat v]) := by
  have hg : w.heap.size ≤ g := by
    rcases ownsRow_addr hr.1 with ⟨h1, _⟩ | ⟨g2, h1, h2, _⟩
    · cases h1
    · injection h1 with h1
      injection h1 with h1
      omega
  have hb : Below w.heap.size w w1 := (bel_alloc hr.2 _).trans (hg1.below (Nat.le_trans hr.2.size (by simp)) (by rintro k _ ⟨x, hx, rfl⟩; injection hx with hx; subst hx; exact hg))
  have hl : (out ++ [UInt8.ofNat v]).length = out.length + 1 := by simp
  rcases hf1 with rfl | rfl
  · exact ⟨_, rfl, by rw [hl, byteCells_snoc _ _ hv]; exact hown1, hb⟩
  · exact ⟨_, rfl, by rw [hl, byteCells_snoc _ _ hv]; exact hown1, hb⟩
set_option maxRecDepth 100000 in
set_option maxHeartbeats 2000000 in
theorem zzdecode_any (s : ByteArray) (hs : s.size ≤ 1048576) (w : World) : Calls Tryf.prog 15 #[.string s] w (DecOut s w) := by
  obtain ⟨i0, hi, hz0, hz1, hz2⟩ := info_parts info5
  have hmk := make0 s.size hs
  go_enter Tryf.func15, Tryf.ntmps15
  go_wp2
  go_loopw [5, 6, 7] (fun v5 v6 v7 wr => ∃ i out k sl g vc, Al (bt s) s.size i out k sl ∧ i ≤ s.size ∧ v7 = .int .i64 (i : Nat) ∧ v6 = .bool sl ∧ v5 = .slice (some ⟨g, 0, none⟩) out.length vc ∧ Row w wr g vc out) (fun _ _ v7 _ => s.size - (intOf v7).toNat)
  case atStart => exact ⟨0, [], 0, false, _, _, .nil, by omega, rfl, rfl, rfl, made0 s.size hs w, (Below.refl _ w).alloc (Nat.le_refl _) _⟩
  case round =>
    obtain ⟨i, out, k, sl, g, vc, hal, hi2, rfl, rfl, rfl, hown, hbel⟩ := hrel
    have hk2 := hal.length
    have hol : out.length ≤ 1048576 := by omega
    clear hk2 hmk
    have Hal := Lib.hid hal; have Hown := Lib.hid hown; have Hbel := Lib.hid hbel
    have Hrow : Hid (Row w wr g vc out) := ⟨hown, hbel⟩
    have hsw : w.heap.size ≤ wr.heap.size := hbel.size
    clear hal hown hbel
    by_cases hlt : i < s.size
    · have hb := bt_eq s i hlt
      by_cases hc : bt s i = 37
      · by_cases h2 : i + 2 < s.size
        · have hb1 := bt_eq s (i + 1) (by omega)
          have hb2 := bt_eq s (i + 2) h2
          have hx1 : ((i : Int) + 1) < (s.size : Int) := by omega
          have hx2 : ((i : Int) + 2) < (s.size : Int) := by omega
          have hxx : ¬ ((s.size : Int) - (i : Int) < 3) := by omega
          have hz1' : (0 : Int) ≤ (i : Int) + 1 := by omega
          have hz2' : (0 : Int) ≤ (i : Int) + 2 := by omega
          cases ha : isHex (bt s (i + 1))
          · have Ha := Lib.hid ha
            clear ha
            cases hh : isHex (bt s (i + 2))
            · have Hh := Lib.hid hh
              clear hh
              go_wp2_with fail
              refine (hex_no _ (bt_lt s _) Ha.out _).mono ?_
              rintro e w' ⟨rfl, rfl⟩
              go_wp2_with fail
              refine (hex_no _ (bt_lt s _) Hh.out _).mono ?_
              rintro e w' ⟨rfl, rfl⟩
              go_wp2
              go_ret3
              exact dec_none (Al.bad Hal.out hlt hc (by simp [Ha.out])) rfl Hbel.out
            · have Hh := Lib.hid hh
              clear hh
              go_wp2_with fail
              refine (hex_no _ (bt_lt s _) Ha.out _).mono ?_
              rintro e w' ⟨rfl, rfl⟩
              go_wp2_with fail
              refine (hex_yes _ (bt_lt s _) Hh.out _).mono ?_
              rintro e w' ⟨rfl, rfl⟩
              go_wp2
              go_ret3
              exact dec_none (Al.bad Hal.out hlt hc (by simp [Ha.out])) rfl Hbel.out
          · have Ha := Lib.hid ha
            clear ha
            cases hh : isHex (bt s (i + 2))
            · have Hh := Lib.hid hh
              clear hh
              go_wp2_with fail
              refine (hex_yes _ (bt_lt s _) Ha.out _).mono ?_
              rintro e w' ⟨rfl, rfl⟩
              go_wp2_with fail
              refine (hex_no _ (bt_lt s _) Hh.out _).mono ?_
              rintro e w' ⟨rfl, rfl⟩
              go_wp2
              go_ret3
              exact dec_none (Al.bad Hal.out hlt hc (by simp [Hh.out])) rfl Hbel.out
            · have Hh := Lib.hid hh
              have Hn : Hid (Al (bt s) s.size (i + 3) _ (k + 1) _) := Al.esc Hal.out h2 hc Ha.out hh
              clear hh
              have q1 := hexV_lt Ha.out
              have q2 := hexV_lt Hh.out
              have Hv := Lib.hid (escV_lt Ha.out Hh.out)
              have hm1 : IntKind.u8.wrap ((hexV (bt s (i + 1)) : Int) * 16) = (hexV (bt s (i + 1)) : Int) * 16 := by rw [IntKind.wrap_u8]; omega
              have hm2 : IntKind.u8.wrap ((hexV (bt s (i + 1)) : Int) * 16 + (hexV (bt s (i + 2)) : Int)) = ((escV (bt s (i + 1)) (bt s (i + 2)) : Nat) : Int) := by rw [IntKind.wrap_u8]; unfold escV; omega
              clear q1 q2
              generalize hee : escV (bt s (i + 1)) (bt s (i + 2)) = ev at *
              clear hee
              by_cases he1 : ev = 47
              · subst he1
                have hk47 : IntKind.u8.wrap ((hexV (bt s (i + 1)) : Int) * 16 + (hexV (bt s (i + 2)) : Int)) = 47 := hm2
                clear hm2
                go_wp2_with fail
                refine (hex_yes _ (bt_lt s _) Ha.out _).mono ?_
                rintro e w' ⟨rfl, rfl⟩
                go_wp2_with fail
                refine (hex_yes _ (bt_lt s _) Hh.out _).mono ?_
                rintro e w' ⟨rfl, rfl⟩
                go_wp2_with (at_builtin; go_loud (refine wpList_append_fresh _ rfl (.tmp 69) (.tmp 71) 57 rfl w.heap.size 5 i0 _ 1 1 Tryf.underlying57 hi hz0 hz1 hz2 rfl (by decide) _ out.length vc (Lib.byteCells out) rfl (Hown.out.alloc _) (some ⟨wr.heap.size, 0, none⟩) 1 1 [.int .u8 47] rfl rfl (by simp) (cells_new wr _ _) (by intro u hu; simp at hu; subst hu; rfl) (by unfold maxLen; omega) (by omega) (by simp; omega) ?_; intro vo' vc' w1 hown1 hg1 hf1))
                obtain ⟨g', rfl, hrow⟩ := Hrow.out.push (v := 47) Hv.out hown1 hg1 hf1
                go_roundw
                case rel => exact ⟨i + 3, _, k + 1, _, g', vc', Hn.out, by omega, by go_num, by simp [isSl], by simp, hrow⟩
                case measure => simp [intOf]; omega
              · by_cases he2 : ev = 92
                · subst he2
                  have hk92 : IntKind.u8.wrap ((hexV (bt s (i + 1)) : Int) * 16 + (hexV (bt s (i + 2)) : Int)) = 92 := hm2
                  clear hm2
                  go_wp2_with fail
                  refine (hex_yes _ (bt_lt s _) Ha.out _).mono ?_
                  rintro e w' ⟨rfl, rfl⟩
                  go_wp2_with fail
                  refine (hex_yes _ (bt_lt s _) Hh.out _).mono ?_
                  rintro e w' ⟨rfl, rfl⟩
                  go_wp2_with (at_builtin; go_loud (refine wpList_append_fresh _ rfl (.tmp 69) (.tmp 71) 57 rfl w.heap.size 5 i0 _ 1 1 Tryf.underlying57 hi hz0 hz1 hz2 rfl (by decide) _ out.length vc (Lib.byteCells out) rfl (Hown.out.alloc _) (some ⟨wr.heap.size, 0, none⟩) 1 1 [.int .u8 92] rfl rfl (by simp) (cells_new wr _ _) (by intro u hu; simp at hu; subst hu; rfl) (by unfold maxLen; omega) (by omega) (by simp; omega) ?_; intro vo' vc' w1 hown1 hg1 hf1))
                  obtain ⟨g', rfl, hrow⟩ := Hrow.out.push (v := 92) Hv.out hown1 hg1 hf1
                  go_roundw
                  case rel => exact ⟨i + 3, _, k + 1, _, g', vc', Hn.out, by omega, by go_num, by simp [isSl], by simp, hrow⟩
                  case measure => simp [intOf]; omega
                · have hx47 : ((ev : Int) == 47) = false := by simp; omega
                  have hx92 : ((ev : Int) == 92) = false := by simp; omega
                  have Hs : Hid (isSl ev = false) := by show _ = _; simp [isSl]; omega
                  go_wp2_with fail
                  refine (hex_yes _ (bt_lt s _) Ha.out _).mono ?_
                  rintro e w' ⟨rfl, rfl⟩
                  go_wp2_with fail
                  refine (hex_yes _ (bt_lt s _) Hh.out _).mono ?_
                  rintro e w' ⟨rfl, rfl⟩
                  go_wp2_with (at_builtin; go_loud (refine wpList_append_fresh _ rfl (.tmp 69) (.tmp 71) 57 rfl w.heap.size 5 i0 _ 1 1 Tryf.underlying57 hi hz0 hz1 hz2 rfl (by decide) _ out.length vc (Lib.byteCells out) rfl (Hown.out.alloc _) (some ⟨wr.heap.size, 0, none⟩) 1 1 [.int .u8 ev] rfl rfl (by simp) (cells_new wr _ _) (by intro u hu; simp at hu; subst hu; rfl) (by unfold maxLen; omega) (by omega) (by simp; omega) ?_; intro vo' vc' w1 hown1 hg1 hf1))
                  obtain ⟨g', rfl, hrow⟩ := Hrow.out.push (v := ev) Hv.out hown1 hg1 hf1
                  go_roundw
                  case rel => exact ⟨i + 3, _, k + 1, _, g', vc', Hn.out, by omega, by go_num, by rw [Hs.out, Bool.or_false], by simp, hrow⟩
                  case measure => simp [intOf]; omega
        · have hxx : ((s.size : Int) - (i : Int) < 3) := by omega
          go_wp2
          go_ret3
          exact dec_none (Al.bad Hal.out hlt hc (by omega)) rfl Hbel.out
      · have hc1 : ((bt s i : Int) == 37) = false := by simp; omega
        have hc2 : ((bt s i : Int) != 37) = true := by simp; omega
        have Hn : Hid (Al (bt s) s.size (i + 1) _ k _) := Al.plain Hal.out hlt hc
        go_wp2_with (at_builtin; go_loud (refine wpList_append_fresh _ rfl (.tmp 26) (.tmp 28) 57 rfl w.heap.size 5 i0 _ 1 1 Tryf.underlying57 hi hz0 hz1 hz2 rfl (by decide) _ out.length vc (Lib.byteCells out) rfl (Hown.out.alloc _) (some ⟨wr.heap.size, 0, none⟩) 1 1 [.int .u8 (bt s i)] rfl rfl (by simp) (cells_new wr _ _) (by intro u hu; simp at hu; subst hu; rfl) (by unfold maxLen; omega) (by omega) (by simp; omega) ?_; intro vo' vc' w1 hown1 hg1 hf1))
        obtain ⟨g', rfl, hrow⟩ := Hrow.out.push (bt_lt s i) hown1 hg1 hf1
        go_roundw
        case rel => exact ⟨i + 1, _, k, _, g', vc', Hn.out, by omega, by go_num, rfl, by simp, hrow⟩
        case measure => simp [intOf]; omega
    · obtain rfl : i = s.size := by omega
      have hbk := back0 Hown.out
      go_wp2
      go_ret3
      exact dec_some Hal.out.whole rfl Hbel.out
end Go.Proofs.YtmhjhipldabaoaaFmt
