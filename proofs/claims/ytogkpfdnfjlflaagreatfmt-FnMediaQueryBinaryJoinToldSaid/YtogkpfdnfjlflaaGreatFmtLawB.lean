/-
  Proved: the walk of FnMediaQueryBinaryJoin: it answers true. The frame and the card stand in a later text.
-/
import Derived.Test.YtogkpfdnfjlflaaGreatFmtZbin
import Derived.Test.YtogkpfdnfjlflaaGreatFmtLawA
namespace Go.Proofs.YtogkpfdnfjlflaaGreatFmt
open Go.RowKit Go.ChangeAt
set_option linter.unusedSimpArgs false
set_option linter.unusedVariables false
/-- The row that holds 'out', made since w. -/
structure RowAt (w wr : World) (vo : Option Addr) (L vc : Nat) (out : List UInt8) : Prop where
  len : L = out.length
  own : wr.ownsRow w.heap.size 5 1 (.slice vo L vc) L (Lib.byteCells out)
  chg : Chg Nowhere w wr
theorem RowAt.addr {w wr : World} {vo : Option Addr} {L vc : Nat} {out : List UInt8} (h : RowAt w wr vo L vc out) : ∀ k, InRow vo k → w.heap.size ≤ k := by
  rintro k ⟨x, rfl, rfl⟩
  rcases ownsRow_addr h.own with ⟨h3, _⟩ | ⟨g, h3, h4, h5⟩
  · cases h3
  · injection h3 with h3
    subst h3
    exact h4
theorem RowAt.str {w wr w' : World} {vo vo' : Option Addr} {L vc vc' : Nat} {out : List UInt8} {s : ByteArray} (h : RowAt w wr vo L vc out)
    (hown : w'.ownsRow w.heap.size 5 1 (.slice vo' (L + s.size) vc') (L + s.size) (Lib.byteCells out ++ Lib.strCells s)) (hc : Chg (InRow vo) wr w') : RowAt w w' vo' (L + s.size) vc' (out ++ s.data.toList) := by
  refine ⟨?_, ?_, h.chg.trans hc fun k hk hs => absurd (h.addr k hs) (by omega)⟩
  · rw [List.length_append, Array.length_toList, h.len]; rfl
  · have hx : Lib.byteCells (out ++ s.data.toList) = Lib.byteCells out ++ Lib.strCells s := by simp [Lib.byteCells, Lib.strCells]
    rw [hx]; exact hown
theorem RowAt.byte {w wr w' : World} {vo vo' : Option Addr} {L vc vc' : Nat} {out : List UInt8} {x : Obj} {c : Int} (d : UInt8) (hd : c = (d.toNat : Int)) (h : RowAt w wr vo L vc out)
    (hown : w'.ownsRow w.heap.size 5 1 (.slice vo' (L + 1) vc') (L + 1) (Lib.byteCells out ++ [.int .u8 c])) (hc : Chg (InRow vo) (wr.alloc x) w') : RowAt w w' vo' (L + 1) vc' (out ++ [d]) := by
  subst hd
  refine ⟨?_, ?_, (h.chg.alloc x).trans hc fun k hk hs => absurd (h.addr k hs) (by omega)⟩
  · rw [List.length_append, h.len]; rfl
  · have hx : Lib.byteCells (out ++ [d]) = Lib.byteCells out ++ [.int .u8 (d.toNat : Int)] := by simp [Lib.byteCells]
    rw [hx]; exact hown
theorem RowAt.conv {w wr : World} {vo : Option Addr} {L vc : Nat} {out : List UInt8} (h : RowAt w wr vo L vc out) : (convert 29 9 (.slice vo L vc)).run Tryz.prog wr = .ok (.string ⟨out.toArray⟩) wr := by
  obtain ⟨rfl, h2, _⟩ := h
  exact Pr.str (m := true) (b := 0) h2
theorem make29 (q : Int) (k : Nat) (hq : q = (k : Int)) (hk : k ≤ 2097152) (W : World) : (Instr.makeSlice 29 (.int .i64 0) (.int .i64 q)).run Tryz.prog W = .ok (.slice (some ⟨W.heap.size, 0, none⟩) 0 k) (W.alloc (.cells (madeCells #[.int .u8 0] k) 5)) := by
  subst hq
  obtain ⟨i0, hi, hz0, hz1, hz2⟩ := info_parts info5
  have h := run_make (P := Tryz.prog) W 29 5 i0 _ Tryz.underlying29 hi hz0 .i64 .i64 0 k (by omega) (by omega) (by rw [hz2]; omega) (by omega)
  rw [h, hz1]
  simp [Value.cells]
theorem RowAt.start (w : World) (wl : World) (h : Chg Nowhere w wl) (k : Nat) (hk : k ≤ 2097152) : RowAt w (wl.alloc (.cells (madeCells #[.int .u8 0] k) 5)) (some ⟨wl.heap.size, 0, none⟩) 0 k [] :=
  ⟨rfl, World.ownsRow_made wl _ k h.size (by unfold maxLen; omega) (by rw [size_madeCells]; omega), h.alloc _⟩
theorem byte1 (wl : World) (c : Int) (q : Nat) (hq : q = wl.heap.size) : ∀ a, (some ⟨q, 0, none⟩ : Option Addr) = some a → ∀ j u, ([Value.int .u8 c])[j]? = some u → (wl.alloc (.cells #[.int .u8 c] 5)).cell? (a.add j) = some u :=
  fun a ha j u hu => cells_new wl #[.int .u8 c] 5 a (hq ▸ ha) j u hu
set_option maxRecDepth 100000 in
set_option maxHeartbeats 4000000 in
theorem law4_000 (a : Option Addr) (n c : Nat) (f : Nat → ByteArray) (w : World) (hnil : a = none → n = 0) (hn : n ≤ 9223372036854775807) (hR : Reads w a n fun i => .string (f i)) :
    Calls Tryz.prog 4 #[.slice a n c, .bool false, .bool false, .bool false] w (TrueOut w) := by
  by_cases hn1 : n ≤ 65536
  · have hx1 : ¬ (65536 : Int) < (n : Int) := by omega
    have HR := Lib.hid hR
    clear hR
    go_enter Tryz.func4, Tryz.ntmps4
    go_wp2_with fail
    refine (zb7 a n c f _ _ _ w HR.out hn).mono ?_
    rintro e w1 ⟨r, rfl, rfl, hb⟩
    cases r
    · go_wp2_with fail
      go_ret
      exact ⟨rfl, Chg.refl _ _⟩
    · replace hb := hb rfl
      go_wp2_with fail
      refine (sum8 a n c f w HR.out hb).mono ?_
      rintro e w1 ⟨rfl, rfl⟩
      by_cases hs : 16 * n + sumTo f n ≤ 1048576
      · have hx2 : ¬ (1048576 : Int) < ((16 * n + sumTo f n : Nat) : Int) := by omega
        go_wp2_with fail
        refine (clone9 a n c f w hnil (by omega) HR.out).mono ?_
        rintro e w2 ⟨a2, c2, rfl, hR2, hc2, hf2⟩
        have HR2 := Lib.hid hR2
        have Hc2 := Lib.hid hc2
        clear hR2 hc2 hf2
        go_wp2_with fail
        refine (zbin false false false a2 n c2 f w2 HR2.out hb).mono ?_
        rintro e w3 ⟨rfl, hc3⟩
        have Hc3 := Lib.hid hc3
        clear hc3
        rw [show binText false false false f n = joined [32, 97, 110, 100, 32] f n from rfl]
        have hcat : (⟨#[32]⟩ ++ ⟨#[97, 110, 100, 32]⟩ : ByteArray) = ⟨#[32, 97, 110, 100, 32]⟩ := by rfl
        go_wp2_with fail
        refine (sum8 a2 n c2 f w3 (HR2.out.kept Hc3.out (fun _ _ _ h => h)) hb).mono ?_
        rintro e w4 ⟨rfl, rfl⟩
        have hmk := make29 (16 * (n : Int) + (sumTo f n : Int) + 2) (16 * n + sumTo f n + 2) (by omega) (by omega) w3
        have hst := RowAt.start w2 w3 Hc3.out (16 * n + sumTo f n + 2) (by omega)
        obtain ⟨i0, hi, hz0, hz1, hz2⟩ := info_parts info5
        have hsz3 := Hc3.out.size
        have Hst := Lib.hid hst
        clear hst
        go_wp2_with fail
        clear hmk
        go_loopw [11, 12] (fun s i wr => ∃ k : Nat, ∃ vo L vc, k ≤ n ∧ i = .int .i64 k ∧ s = .slice vo L vc ∧ RowAt w2 wr vo L vc (joined [32, 97, 110, 100, 32] f k)) (fun _ i _ => n - (intOf i).toNat)
        case atStart => exact ⟨0, _, 0, _, by omega, rfl, rfl, by simpa only [joined, List.append_nil, List.nil_append] using Hst.out⟩
        case round =>
          obtain ⟨k, vo, L, vc, hk, rfl, rfl, hr⟩ := hrel
          have hm := sumTo_mono f hk
          have hl := joined_length [32, 97, 110, 100, 32] f k
          have hlen := hr.len
          simp at hl hlen
          have hL : L ≤ 4000000 := by omega
          clear hlen hl
          by_cases hlt : k < n
          · rcases HR2.out with h0 | ⟨g, o, rfl, hR1⟩
            · omega
            have hc := hr.chg.cell (hR1 k hlt) (fun h => h)
            have hgl : g < w2.heap.size := World.block_lt_of_cell? w2 _ (hR1 k hlt)
            clear hR1
            have Hrow := Lib.hid hr
            clear hr
            have hm2 := sumTo_mono f (show k + 1 ≤ n by omega)
            have hms : sumTo f (k + 1) = sumTo f k + (f k).size := rfl
            have hx3 : (k : Int) < (n : Int) := by omega
            have hx4 : (0 : Int) ≤ (k : Int) := by omega
            rcases Nat.eq_zero_or_pos k with hz | hz
            · have Hz := Lib.hid hz
              have hx5 : ¬ (0 : Int) < (k : Int) := by omega
              clear hz
              go_wp2_with (at_builtin; go_loud (refine wpList_append_str_fresh _ rfl (.tmp 58) (.tmp 62) 29 9 rfl w2.heap.size 5 i0 Tryz.underlying29 Tryz.underlying9 hi hz0 hz1 hz2 vo L vc _ rfl Hrow.out.own (f k) rfl (by unfold maxLen; omega) (by omega) (Hrow.out.chg.size) ?_; intro vp2 vcp2 wp2 hown1 hg1 hf1; have Hr2 := Lib.hid (Hrow.out.str hown1 hg1); clear hown1 hg1 hf1))
              go_roundw
              case rel =>
                have hj : joined [32, 97, 110, 100, 32] f (k + 1) = joined [32, 97, 110, 100, 32] f k ++ (f k).data.toList := by simp [joined, Hz.out]
                exact ⟨k + 1, vp2, _, vcp2, by omega, by go_num, rfl, hj ▸ Hr2.out⟩
              case measure => simp [intOf]; omega
            · have hx5 : (0 : Int) < (k : Int) := by omega
              go_wp2_with (first
                | (at_builtin; refine wpList_append_str_fresh _ rfl (.tmp 55) (.tmp 56) 29 9 rfl w2.heap.size 5 i0 Tryz.underlying29 Tryz.underlying9 hi hz0 hz1 hz2 vo L vc _ rfl Hrow.out.own ⟨#[32, 97, 110, 100, 32]⟩ rfl (by unfold maxLen; first | omega | (simp [ByteArray.size]; omega)) (by first | omega | (simp [ByteArray.size]; omega)) (Hrow.out.chg.size) ?_; intro vp1 vcp1 wp1 hown1 hg1 hf1; have Hr1 := Lib.hid (Hrow.out.str hown1 hg1); have hc1 := hg1.cell hc (by intro hh; have := Hrow.out.addr _ hh; simp at this; omega); clear hown1 hg1 hf1)
                | (at_builtin; go_loud (refine wpList_append_str_fresh _ rfl (.tmp 58) (.tmp 62) 29 9 rfl w2.heap.size 5 i0 Tryz.underlying29 Tryz.underlying9 hi hz0 hz1 hz2 vp1 _ vcp1 _ rfl Hr1.out.own (f k) rfl (by unfold maxLen; first | omega | (simp [ByteArray.size]; omega)) (by first | omega | (simp [ByteArray.size]; omega)) (Hr1.out.chg.size) ?_; intro vp2 vcp2 wp2 hown1 hg1 hf1; have Hr2 := Lib.hid (Hr1.out.str hown1 hg1); clear hown1 hg1 hf1)))
              go_roundw
              case rel =>
                have hj : joined [32, 97, 110, 100, 32] f (k + 1) = joined [32, 97, 110, 100, 32] f k ++ [32, 97, 110, 100, 32] ++ (f k).data.toList := by simp [joined, show ¬ k = 0 by omega]
                exact ⟨k + 1, vp2, _, vcp2, by omega, by go_num, rfl, hj ▸ Hr2.out⟩
              case measure => simp [intOf]; omega
          · obtain rfl : k = n := by omega
            have Hrow := Lib.hid hr
            have hcv := hr.conv
            clear hr
            go_wp2_with fail
            go_ret
            exact ⟨rfl, Hc2.out.trans Hrow.out.chg (fun _ _ h => h)⟩
      · have hx2 : (1048576 : Int) < ((16 * n + sumTo f n : Nat) : Int) := by omega
        go_wp2_with fail
        go_ret
        exact ⟨rfl, Chg.refl _ _⟩
  · have hx1 : (65536 : Int) < (n : Int) := by omega
    go_enter Tryz.func4, Tryz.ntmps4
    go_wp2_with fail
    refine (zb7 a n c f _ _ _ w hR hn).mono ?_
    rintro e w1 ⟨r, rfl, rfl, hb⟩
    cases r <;> (go_wp2_with fail; go_ret; exact ⟨rfl, Chg.refl _ _⟩)
set_option maxRecDepth 100000 in
set_option maxHeartbeats 4000000 in
theorem law4_001 (a : Option Addr) (n c : Nat) (f : Nat → ByteArray) (w : World) (hnil : a = none → n = 0) (hn : n ≤ 9223372036854775807) (hR : Reads w a n fun i => .string (f i)) :
    Calls Tryz.prog 4 #[.slice a n c, .bool false, .bool false, .bool true] w (TrueOut w) := by
  by_cases hn1 : n ≤ 65536
  · have hx1 : ¬ (65536 : Int) < (n : Int) := by omega
    have HR := Lib.hid hR
    clear hR
    go_enter Tryz.func4, Tryz.ntmps4
    go_wp2_with fail
    refine (zb7 a n c f _ _ _ w HR.out hn).mono ?_
    rintro e w1 ⟨r, rfl, rfl, hb⟩
    cases r
    · go_wp2_with fail
      go_ret
      exact ⟨rfl, Chg.refl _ _⟩
    · replace hb := hb rfl
      go_wp2_with fail
      refine (sum8 a n c f w HR.out hb).mono ?_
      rintro e w1 ⟨rfl, rfl⟩
      by_cases hs : 16 * n + sumTo f n ≤ 1048576
      · have hx2 : ¬ (1048576 : Int) < ((16 * n + sumTo f n : Nat) : Int) := by omega
        go_wp2_with fail
        refine (clone9 a n c f w hnil (by omega) HR.out).mono ?_
        rintro e w2 ⟨a2, c2, rfl, hR2, hc2, hf2⟩
        have HR2 := Lib.hid hR2
        have Hc2 := Lib.hid hc2
        clear hR2 hc2 hf2
        go_wp2_with fail
        refine (zbin false false true a2 n c2 f w2 HR2.out hb).mono ?_
        rintro e w3 ⟨rfl, hc3⟩
        have Hc3 := Lib.hid hc3
        clear hc3
        rw [show binText false false true f n = [40] ++ joined [32, 97, 110, 100, 32] f n ++ [41] from rfl]
        have hcat : (⟨#[32]⟩ ++ ⟨#[97, 110, 100, 32]⟩ : ByteArray) = ⟨#[32, 97, 110, 100, 32]⟩ := by rfl
        go_wp2_with fail
        refine (sum8 a2 n c2 f w3 (HR2.out.kept Hc3.out (fun _ _ _ h => h)) hb).mono ?_
        rintro e w4 ⟨rfl, rfl⟩
        have hmk := make29 (16 * (n : Int) + (sumTo f n : Int) + 2) (16 * n + sumTo f n + 2) (by omega) (by omega) w3
        have hst := RowAt.start w2 w3 Hc3.out (16 * n + sumTo f n + 2) (by omega)
        obtain ⟨i0, hi, hz0, hz1, hz2⟩ := info_parts info5
        have hsz3 := Hc3.out.size
        have Hst := Lib.hid hst
        clear hst
        go_wp2_with (at_builtin; go_loud (refine wpList_append_fresh _ rfl (.tmp 44) (.tmp 45) 29 rfl w2.heap.size 5 i0 _ 1 1 Tryz.underlying29 hi hz0 hz1 hz2 rfl (by decide) _ _ _ _ rfl (Hst.out.own.alloc _) (some ⟨w3.heap.size + 1, 0, none⟩) 1 1 [.int .u8 40] rfl rfl (by simp) (byte1 _ _ _ (by simp)) (by intro u hu; simp at hu; subst hu; rfl) (by unfold maxLen; omega) (by omega) (by have := Hst.out.chg.size; simp; omega) ?_; intro vp vcp wp hown1 hg1 hf1; have Hr := Lib.hid (Hst.out.byte 40 rfl hown1 hg1); clear hown1 hg1 hf1))
        clear hmk
        go_loopw [11, 12] (fun s i wr => ∃ k : Nat, ∃ vo L vc, k ≤ n ∧ i = .int .i64 k ∧ s = .slice vo L vc ∧ RowAt w2 wr vo L vc ([40] ++ joined [32, 97, 110, 100, 32] f k)) (fun _ i _ => n - (intOf i).toNat)
        case atStart => exact ⟨0, vp, 0 + 1, vcp, by omega, rfl, rfl, by simpa only [joined, List.append_nil, List.nil_append] using Hr.out⟩
        case round =>
          obtain ⟨k, vo, L, vc, hk, rfl, rfl, hr⟩ := hrel
          have hm := sumTo_mono f hk
          have hl := joined_length [32, 97, 110, 100, 32] f k
          have hlen := hr.len
          simp at hl hlen
          have hL : L ≤ 4000000 := by omega
          clear hlen hl
          by_cases hlt : k < n
          · rcases HR2.out with h0 | ⟨g, o, rfl, hR1⟩
            · omega
            have hc := hr.chg.cell (hR1 k hlt) (fun h => h)
            have hgl : g < w2.heap.size := World.block_lt_of_cell? w2 _ (hR1 k hlt)
            clear hR1
            have Hrow := Lib.hid hr
            clear hr
            have hm2 := sumTo_mono f (show k + 1 ≤ n by omega)
            have hms : sumTo f (k + 1) = sumTo f k + (f k).size := rfl
            have hx3 : (k : Int) < (n : Int) := by omega
            have hx4 : (0 : Int) ≤ (k : Int) := by omega
            rcases Nat.eq_zero_or_pos k with hz | hz
            · have Hz := Lib.hid hz
              have hx5 : ¬ (0 : Int) < (k : Int) := by omega
              clear hz
              go_wp2_with (at_builtin; go_loud (refine wpList_append_str_fresh _ rfl (.tmp 58) (.tmp 62) 29 9 rfl w2.heap.size 5 i0 Tryz.underlying29 Tryz.underlying9 hi hz0 hz1 hz2 vo L vc _ rfl Hrow.out.own (f k) rfl (by unfold maxLen; omega) (by omega) (Hrow.out.chg.size) ?_; intro vp2 vcp2 wp2 hown1 hg1 hf1; have Hr2 := Lib.hid (Hrow.out.str hown1 hg1); clear hown1 hg1 hf1))
              go_roundw
              case rel =>
                have hj : [40] ++ joined [32, 97, 110, 100, 32] f (k + 1) = [40] ++ joined [32, 97, 110, 100, 32] f k ++ (f k).data.toList := by simp [joined, Hz.out]
                exact ⟨k + 1, vp2, _, vcp2, by omega, by go_num, rfl, hj ▸ Hr2.out⟩
              case measure => simp [intOf]; omega
            · have hx5 : (0 : Int) < (k : Int) := by omega
              go_wp2_with (first
                | (at_builtin; refine wpList_append_str_fresh _ rfl (.tmp 55) (.tmp 56) 29 9 rfl w2.heap.size 5 i0 Tryz.underlying29 Tryz.underlying9 hi hz0 hz1 hz2 vo L vc _ rfl Hrow.out.own ⟨#[32, 97, 110, 100, 32]⟩ rfl (by unfold maxLen; first | omega | (simp [ByteArray.size]; omega)) (by first | omega | (simp [ByteArray.size]; omega)) (Hrow.out.chg.size) ?_; intro vp1 vcp1 wp1 hown1 hg1 hf1; have Hr1 := Lib.hid (Hrow.out.str hown1 hg1); have hc1 := hg1.cell hc (by intro hh; have := Hrow.out.addr _ hh; simp at this; omega); clear hown1 hg1 hf1)
                | (at_builtin; go_loud (refine wpList_append_str_fresh _ rfl (.tmp 58) (.tmp 62) 29 9 rfl w2.heap.size 5 i0 Tryz.underlying29 Tryz.underlying9 hi hz0 hz1 hz2 vp1 _ vcp1 _ rfl Hr1.out.own (f k) rfl (by unfold maxLen; first | omega | (simp [ByteArray.size]; omega)) (by first | omega | (simp [ByteArray.size]; omega)) (Hr1.out.chg.size) ?_; intro vp2 vcp2 wp2 hown1 hg1 hf1; have Hr2 := Lib.hid (Hr1.out.str hown1 hg1); clear hown1 hg1 hf1)))
              go_roundw
              case rel =>
                have hj : [40] ++ joined [32, 97, 110, 100, 32] f (k + 1) = [40] ++ joined [32, 97, 110, 100, 32] f k ++ [32, 97, 110, 100, 32] ++ (f k).data.toList := by simp [joined, show ¬ k = 0 by omega]
                exact ⟨k + 1, vp2, _, vcp2, by omega, by go_num, rfl, hj ▸ Hr2.out⟩
              case measure => simp [intOf]; omega
          · obtain rfl : k = n := by omega
            have Hrow := Lib.hid hr
            clear hr
            have hcv : ∀ (vo : Option Addr) (L vc : Nat) (wr : World), RowAt w2 wr vo L vc ([40] ++ joined [32, 97, 110, 100, 32] f k ++ [41]) → (convert 29 9 (.slice vo L vc)).run Tryz.prog wr = .ok (.string ⟨([40] ++ joined [32, 97, 110, 100, 32] f k ++ [41]).toArray⟩) wr := fun _ _ _ _ h => h.conv
            go_wp2_with (at_builtin; go_loud (refine wpList_append_fresh _ rfl (.tmp 65) (.tmp 66) 29 rfl w2.heap.size 5 i0 _ 1 1 Tryz.underlying29 hi hz0 hz1 hz2 rfl (by decide) vo L vc _ rfl (Hrow.out.own.alloc _) (some ⟨wr.heap.size, 0, none⟩) 1 1 [.int .u8 41] rfl rfl (by simp) (byte1 _ _ _ (by simp)) (by intro u hu; simp at hu; subst hu; rfl) (by unfold maxLen; omega) (by omega) (by have := Hrow.out.chg.size; simp; omega) ?_; intro vp9 vcp9 wp9 hown1 hg1 hf1; have Hr9 := Lib.hid (Hrow.out.byte 41 rfl hown1 hg1); have hcv2 := hcv _ _ _ _ Hr9.out; clear hown1 hg1 hf1 hcv))
            go_ret
            exact ⟨rfl, Hc2.out.trans Hr9.out.chg (fun _ _ h => h)⟩
      · have hx2 : (1048576 : Int) < ((16 * n + sumTo f n : Nat) : Int) := by omega
        go_wp2_with fail
        go_ret
        exact ⟨rfl, Chg.refl _ _⟩
  · have hx1 : (65536 : Int) < (n : Int) := by omega
    go_enter Tryz.func4, Tryz.ntmps4
    go_wp2_with fail
    refine (zb7 a n c f _ _ _ w hR hn).mono ?_
    rintro e w1 ⟨r, rfl, rfl, hb⟩
    cases r <;> (go_wp2_with fail; go_ret; exact ⟨rfl, Chg.refl _ _⟩)
set_option maxRecDepth 100000 in
set_option maxHeartbeats 4000000 in
theorem law4_010 (a : Option Addr) (n c : Nat) (f : Nat → ByteArray) (w : World) (hnil : a = none → n = 0) (hn : n ≤ 9223372036854775807) (hR : Reads w a n fun i => .string (f i)) :
    Calls Tryz.prog 4 #[.slice a n c, .bool false, .bool true, .bool false] w (TrueOut w) := by
  by_cases hn1 : n ≤ 65536
  · have hx1 : ¬ (65536 : Int) < (n : Int) := by omega
    have HR := Lib.hid hR
    clear hR
    go_enter Tryz.func4, Tryz.ntmps4
    go_wp2_with fail
    refine (zb7 a n c f _ _ _ w HR.out hn).mono ?_
    rintro e w1 ⟨r, rfl, rfl, hb⟩
    cases r
    · go_wp2_with fail
      go_ret
      exact ⟨rfl, Chg.refl _ _⟩
    · replace hb := hb rfl
      go_wp2_with fail
      refine (sum8 a n c f w HR.out hb).mono ?_
      rintro e w1 ⟨rfl, rfl⟩
      by_cases hs : 16 * n + sumTo f n ≤ 1048576
      · have hx2 : ¬ (1048576 : Int) < ((16 * n + sumTo f n : Nat) : Int) := by omega
        go_wp2_with fail
        refine (clone9 a n c f w hnil (by omega) HR.out).mono ?_
        rintro e w2 ⟨a2, c2, rfl, hR2, hc2, hf2⟩
        have HR2 := Lib.hid hR2
        have Hc2 := Lib.hid hc2
        clear hR2 hc2 hf2
        go_wp2_with fail
        refine (zbin false true false a2 n c2 f w2 HR2.out hb).mono ?_
        rintro e w3 ⟨rfl, hc3⟩
        have Hc3 := Lib.hid hc3
        clear hc3
        rw [show binText false true false f n = joined [97, 110, 100, 32] f n from rfl]
        go_wp2_with fail
        refine (sum8 a2 n c2 f w3 (HR2.out.kept Hc3.out (fun _ _ _ h => h)) hb).mono ?_
        rintro e w4 ⟨rfl, rfl⟩
        have hmk := make29 (16 * (n : Int) + (sumTo f n : Int) + 2) (16 * n + sumTo f n + 2) (by omega) (by omega) w3
        have hst := RowAt.start w2 w3 Hc3.out (16 * n + sumTo f n + 2) (by omega)
        obtain ⟨i0, hi, hz0, hz1, hz2⟩ := info_parts info5
        have hsz3 := Hc3.out.size
        have Hst := Lib.hid hst
        clear hst
        go_wp2_with fail
        clear hmk
        go_loopw [11, 12] (fun s i wr => ∃ k : Nat, ∃ vo L vc, k ≤ n ∧ i = .int .i64 k ∧ s = .slice vo L vc ∧ RowAt w2 wr vo L vc (joined [97, 110, 100, 32] f k)) (fun _ i _ => n - (intOf i).toNat)
        case atStart => exact ⟨0, _, 0, _, by omega, rfl, rfl, by simpa only [joined, List.append_nil, List.nil_append] using Hst.out⟩
        case round =>
          obtain ⟨k, vo, L, vc, hk, rfl, rfl, hr⟩ := hrel
          have hm := sumTo_mono f hk
          have hl := joined_length [97, 110, 100, 32] f k
          have hlen := hr.len
          simp at hl hlen
          have hL : L ≤ 4000000 := by omega
          clear hlen hl
          by_cases hlt : k < n
          · rcases HR2.out with h0 | ⟨g, o, rfl, hR1⟩
            · omega
            have hc := hr.chg.cell (hR1 k hlt) (fun h => h)
            have hgl : g < w2.heap.size := World.block_lt_of_cell? w2 _ (hR1 k hlt)
            clear hR1
            have Hrow := Lib.hid hr
            clear hr
            have hm2 := sumTo_mono f (show k + 1 ≤ n by omega)
            have hms : sumTo f (k + 1) = sumTo f k + (f k).size := rfl
            have hx3 : (k : Int) < (n : Int) := by omega
            have hx4 : (0 : Int) ≤ (k : Int) := by omega
            rcases Nat.eq_zero_or_pos k with hz | hz
            · have Hz := Lib.hid hz
              have hx5 : ¬ (0 : Int) < (k : Int) := by omega
              clear hz
              go_wp2_with (at_builtin; go_loud (refine wpList_append_str_fresh _ rfl (.tmp 58) (.tmp 62) 29 9 rfl w2.heap.size 5 i0 Tryz.underlying29 Tryz.underlying9 hi hz0 hz1 hz2 vo L vc _ rfl Hrow.out.own (f k) rfl (by unfold maxLen; omega) (by omega) (Hrow.out.chg.size) ?_; intro vp2 vcp2 wp2 hown1 hg1 hf1; have Hr2 := Lib.hid (Hrow.out.str hown1 hg1); clear hown1 hg1 hf1))
              go_roundw
              case rel =>
                have hj : joined [97, 110, 100, 32] f (k + 1) = joined [97, 110, 100, 32] f k ++ (f k).data.toList := by simp [joined, Hz.out]
                exact ⟨k + 1, vp2, _, vcp2, by omega, by go_num, rfl, hj ▸ Hr2.out⟩
              case measure => simp [intOf]; omega
            · have hx5 : (0 : Int) < (k : Int) := by omega
              go_wp2_with (first
                | (at_builtin; refine wpList_append_str_fresh _ rfl (.tmp 55) (.tmp 56) 29 9 rfl w2.heap.size 5 i0 Tryz.underlying29 Tryz.underlying9 hi hz0 hz1 hz2 vo L vc _ rfl Hrow.out.own ⟨#[97, 110, 100, 32]⟩ rfl (by unfold maxLen; first | omega | (simp [ByteArray.size]; omega)) (by first | omega | (simp [ByteArray.size]; omega)) (Hrow.out.chg.size) ?_; intro vp1 vcp1 wp1 hown1 hg1 hf1; have Hr1 := Lib.hid (Hrow.out.str hown1 hg1); have hc1 := hg1.cell hc (by intro hh; have := Hrow.out.addr _ hh; simp at this; omega); clear hown1 hg1 hf1)
                | (at_builtin; go_loud (refine wpList_append_str_fresh _ rfl (.tmp 58) (.tmp 62) 29 9 rfl w2.heap.size 5 i0 Tryz.underlying29 Tryz.underlying9 hi hz0 hz1 hz2 vp1 _ vcp1 _ rfl Hr1.out.own (f k) rfl (by unfold maxLen; first | omega | (simp [ByteArray.size]; omega)) (by first | omega | (simp [ByteArray.size]; omega)) (Hr1.out.chg.size) ?_; intro vp2 vcp2 wp2 hown1 hg1 hf1; have Hr2 := Lib.hid (Hr1.out.str hown1 hg1); clear hown1 hg1 hf1)))
              go_roundw
              case rel =>
                have hj : joined [97, 110, 100, 32] f (k + 1) = joined [97, 110, 100, 32] f k ++ [97, 110, 100, 32] ++ (f k).data.toList := by simp [joined, show ¬ k = 0 by omega]
                exact ⟨k + 1, vp2, _, vcp2, by omega, by go_num, rfl, hj ▸ Hr2.out⟩
              case measure => simp [intOf]; omega
          · obtain rfl : k = n := by omega
            have Hrow := Lib.hid hr
            have hcv := hr.conv
            clear hr
            go_wp2_with fail
            go_ret
            exact ⟨rfl, Hc2.out.trans Hrow.out.chg (fun _ _ h => h)⟩
      · have hx2 : (1048576 : Int) < ((16 * n + sumTo f n : Nat) : Int) := by omega
        go_wp2_with fail
        go_ret
        exact ⟨rfl, Chg.refl _ _⟩
  · have hx1 : (65536 : Int) < (n : Int) := by omega
    go_enter Tryz.func4, Tryz.ntmps4
    go_wp2_with fail
    refine (zb7 a n c f _ _ _ w hR hn).mono ?_
    rintro e w1 ⟨r, rfl, rfl, hb⟩
    cases r <;> (go_wp2_with fail; go_ret; exact ⟨rfl, Chg.refl _ _⟩)
set_option maxRecDepth 100000 in
set_option maxHeartbeats 4000000 in
theorem law4_011 (a : Option Addr) (n c : Nat) (f : Nat → ByteArray) (w : World) (hnil : a = none → n = 0) (hn : n ≤ 9223372036854775807) (hR : Reads w a n fun i => .string (f i)) :
    Calls Tryz.prog 4 #[.slice a n c, .bool false, .bool true, .bool true] w (TrueOut w) := by
  by_cases hn1 : n ≤ 65536
  · have hx1 : ¬ (65536 : Int) < (n : Int) := by omega
    have HR := Lib.hid hR
    clear hR
    go_enter Tryz.func4, Tryz.ntmps4
    go_wp2_with fail
    refine (zb7 a n c f _ _ _ w HR.out hn).mono ?_
    rintro e w1 ⟨r, rfl, rfl, hb⟩
    cases r
    · go_wp2_with fail
      go_ret
      exact ⟨rfl, Chg.refl _ _⟩
    · replace hb := hb rfl
      go_wp2_with fail
      refine (sum8 a n c f w HR.out hb).mono ?_
      rintro e w1 ⟨rfl, rfl⟩
      by_cases hs : 16 * n + sumTo f n ≤ 1048576
      · have hx2 : ¬ (1048576 : Int) < ((16 * n + sumTo f n : Nat) : Int) := by omega
        go_wp2_with fail
        refine (clone9 a n c f w hnil (by omega) HR.out).mono ?_
        rintro e w2 ⟨a2, c2, rfl, hR2, hc2, hf2⟩
        have HR2 := Lib.hid hR2
        have Hc2 := Lib.hid hc2
        clear hR2 hc2 hf2
        go_wp2_with fail
        refine (zbin false true true a2 n c2 f w2 HR2.out hb).mono ?_
        rintro e w3 ⟨rfl, hc3⟩
        have Hc3 := Lib.hid hc3
        clear hc3
        rw [show binText false true true f n = [40] ++ joined [97, 110, 100, 32] f n ++ [41] from rfl]
        go_wp2_with fail
        refine (sum8 a2 n c2 f w3 (HR2.out.kept Hc3.out (fun _ _ _ h => h)) hb).mono ?_
        rintro e w4 ⟨rfl, rfl⟩
        have hmk := make29 (16 * (n : Int) + (sumTo f n : Int) + 2) (16 * n + sumTo f n + 2) (by omega) (by omega) w3
        have hst := RowAt.start w2 w3 Hc3.out (16 * n + sumTo f n + 2) (by omega)
        obtain ⟨i0, hi, hz0, hz1, hz2⟩ := info_parts info5
        have hsz3 := Hc3.out.size
        have Hst := Lib.hid hst
        clear hst
        go_wp2_with (at_builtin; go_loud (refine wpList_append_fresh _ rfl (.tmp 44) (.tmp 45) 29 rfl w2.heap.size 5 i0 _ 1 1 Tryz.underlying29 hi hz0 hz1 hz2 rfl (by decide) _ _ _ _ rfl (Hst.out.own.alloc _) (some ⟨w3.heap.size + 1, 0, none⟩) 1 1 [.int .u8 40] rfl rfl (by simp) (byte1 _ _ _ (by simp)) (by intro u hu; simp at hu; subst hu; rfl) (by unfold maxLen; omega) (by omega) (by have := Hst.out.chg.size; simp; omega) ?_; intro vp vcp wp hown1 hg1 hf1; have Hr := Lib.hid (Hst.out.byte 40 rfl hown1 hg1); clear hown1 hg1 hf1))
        clear hmk
        go_loopw [11, 12] (fun s i wr => ∃ k : Nat, ∃ vo L vc, k ≤ n ∧ i = .int .i64 k ∧ s = .slice vo L vc ∧ RowAt w2 wr vo L vc ([40] ++ joined [97, 110, 100, 32] f k)) (fun _ i _ => n - (intOf i).toNat)
        case atStart => exact ⟨0, vp, 0 + 1, vcp, by omega, rfl, rfl, by simpa only [joined, List.append_nil, List.nil_append] using Hr.out⟩
        case round =>
          obtain ⟨k, vo, L, vc, hk, rfl, rfl, hr⟩ := hrel
          have hm := sumTo_mono f hk
          have hl := joined_length [97, 110, 100, 32] f k
          have hlen := hr.len
          simp at hl hlen
          have hL : L ≤ 4000000 := by omega
          clear hlen hl
          by_cases hlt : k < n
          · rcases HR2.out with h0 | ⟨g, o, rfl, hR1⟩
            · omega
            have hc := hr.chg.cell (hR1 k hlt) (fun h => h)
            have hgl : g < w2.heap.size := World.block_lt_of_cell? w2 _ (hR1 k hlt)
            clear hR1
            have Hrow := Lib.hid hr
            clear hr
            have hm2 := sumTo_mono f (show k + 1 ≤ n by omega)
            have hms : sumTo f (k + 1) = sumTo f k + (f k).size := rfl
            have hx3 : (k : Int) < (n : Int) := by omega
            have hx4 : (0 : Int) ≤ (k : Int) := by omega
            rcases Nat.eq_zero_or_pos k with hz | hz
            · have Hz := Lib.hid hz
              have hx5 : ¬ (0 : Int) < (k : Int) := by omega
              clear hz
              go_wp2_with (at_builtin; go_loud (refine wpList_append_str_fresh _ rfl (.tmp 58) (.tmp 62) 29 9 rfl w2.heap.size 5 i0 Tryz.underlying29 Tryz.underlying9 hi hz0 hz1 hz2 vo L vc _ rfl Hrow.out.own (f k) rfl (by unfold maxLen; omega) (by omega) (Hrow.out.chg.size) ?_; intro vp2 vcp2 wp2 hown1 hg1 hf1; have Hr2 := Lib.hid (Hrow.out.str hown1 hg1); clear hown1 hg1 hf1))
              go_roundw
              case rel =>
                have hj : [40] ++ joined [97, 110, 100, 32] f (k + 1) = [40] ++ joined [97, 110, 100, 32] f k ++ (f k).data.toList := by simp [joined, Hz.out]
                exact ⟨k + 1, vp2, _, vcp2, by omega, by go_num, rfl, hj ▸ Hr2.out⟩
              case measure => simp [intOf]; omega
            · have hx5 : (0 : Int) < (k : Int) := by omega
              go_wp2_with (first
                | (at_builtin; refine wpList_append_str_fresh _ rfl (.tmp 55) (.tmp 56) 29 9 rfl w2.heap.size 5 i0 Tryz.underlying29 Tryz.underlying9 hi hz0 hz1 hz2 vo L vc _ rfl Hrow.out.own ⟨#[97, 110, 100, 32]⟩ rfl (by unfold maxLen; first | omega | (simp [ByteArray.size]; omega)) (by first | omega | (simp [ByteArray.size]; omega)) (Hrow.out.chg.size) ?_; intro vp1 vcp1 wp1 hown1 hg1 hf1; have Hr1 := Lib.hid (Hrow.out.str hown1 hg1); have hc1 := hg1.cell hc (by intro hh; have := Hrow.out.addr _ hh; simp at this; omega); clear hown1 hg1 hf1)
                | (at_builtin; go_loud (refine wpList_append_str_fresh _ rfl (.tmp 58) (.tmp 62) 29 9 rfl w2.heap.size 5 i0 Tryz.underlying29 Tryz.underlying9 hi hz0 hz1 hz2 vp1 _ vcp1 _ rfl Hr1.out.own (f k) rfl (by unfold maxLen; first | omega | (simp [ByteArray.size]; omega)) (by first | omega | (simp [ByteArray.size]; omega)) (Hr1.out.chg.size) ?_; intro vp2 vcp2 wp2 hown1 hg1 hf1; have Hr2 := Lib.hid (Hr1.out.str hown1 hg1); clear hown1 hg1 hf1)))
              go_roundw
              case rel =>
                have hj : [40] ++ joined [97, 110, 100, 32] f (k + 1) = [40] ++ joined [97, 110, 100, 32] f k ++ [97, 110, 100, 32] ++ (f k).data.toList := by simp [joined, show ¬ k = 0 by omega]
                exact ⟨k + 1, vp2, _, vcp2, by omega, by go_num, rfl, hj ▸ Hr2.out⟩
              case measure => simp [intOf]; omega
          · obtain rfl : k = n := by omega
            have Hrow := Lib.hid hr
            clear hr
            have hcv : ∀ (vo : Option Addr) (L vc : Nat) (wr : World), RowAt w2 wr vo L vc ([40] ++ joined [97, 110, 100, 32] f k ++ [41]) → (convert 29 9 (.slice vo L vc)).run Tryz.prog wr = .ok (.string ⟨([40] ++ joined [97, 110, 100, 32] f k ++ [41]).toArray⟩) wr := fun _ _ _ _ h => h.conv
            go_wp2_with (at_builtin; go_loud (refine wpList_append_fresh _ rfl (.tmp 65) (.tmp 66) 29 rfl w2.heap.size 5 i0 _ 1 1 Tryz.underlying29 hi hz0 hz1 hz2 rfl (by decide) vo L vc _ rfl (Hrow.out.own.alloc _) (some ⟨wr.heap.size, 0, none⟩) 1 1 [.int .u8 41] rfl rfl (by simp) (byte1 _ _ _ (by simp)) (by intro u hu; simp at hu; subst hu; rfl) (by unfold maxLen; omega) (by omega) (by have := Hrow.out.chg.size; simp; omega) ?_; intro vp9 vcp9 wp9 hown1 hg1 hf1; have Hr9 := Lib.hid (Hrow.out.byte 41 rfl hown1 hg1); have hcv2 := hcv _ _ _ _ Hr9.out; clear hown1 hg1 hf1 hcv))
            go_ret
            exact ⟨rfl, Hc2.out.trans Hr9.out.chg (fun _ _ h => h)⟩
      · have hx2 : (1048576 : Int) < ((16 * n + sumTo f n : Nat) : Int) := by omega
        go_wp2_with fail
        go_ret
        exact ⟨rfl, Chg.refl _ _⟩
  · have hx1 : (65536 : Int) < (n : Int) := by omega
    go_enter Tryz.func4, Tryz.ntmps4
    go_wp2_with fail
    refine (zb7 a n c f _ _ _ w hR hn).mono ?_
    rintro e w1 ⟨r, rfl, rfl, hb⟩
    cases r <;> (go_wp2_with fail; go_ret; exact ⟨rfl, Chg.refl _ _⟩)
set_option maxRecDepth 100000 in
set_option maxHeartbeats 4000000 in
theorem law4_100 (a : Option Addr) (n c : Nat) (f : Nat → ByteArray) (w : World) (hnil : a = none → n = 0) (hn : n ≤ 9223372036854775807) (hR : Reads w a n fun i => .string (f i)) :
    Calls Tryz.prog 4 #[.slice a n c, .bool true, .bool false, .bool false] w (TrueOut w) := by
  by_cases hn1 : n ≤ 65536
  · have hx1 : ¬ (65536 : Int) < (n : Int) := by omega
    have HR := Lib.hid hR
    clear hR
    go_enter Tryz.func4, Tryz.ntmps4
    go_wp2_with fail
    refine (zb7 a n c f _ _ _ w HR.out hn).mono ?_
    rintro e w1 ⟨r, rfl, rfl, hb⟩
    cases r
    · go_wp2_with fail
      go_ret
      exact ⟨rfl, Chg.refl _ _⟩
    · replace hb := hb rfl
      go_wp2_with fail
      refine (sum8 a n c f w HR.out hb).mono ?_
      rintro e w1 ⟨rfl, rfl⟩
      by_cases hs : 16 * n + sumTo f n ≤ 1048576
      · have hx2 : ¬ (1048576 : Int) < ((16 * n + sumTo f n : Nat) : Int) := by omega
        go_wp2_with fail
        refine (clone9 a n c f w hnil (by omega) HR.out).mono ?_
        rintro e w2 ⟨a2, c2, rfl, hR2, hc2, hf2⟩
        have HR2 := Lib.hid hR2
        have Hc2 := Lib.hid hc2
        clear hR2 hc2 hf2
        go_wp2_with fail
        refine (zbin true false false a2 n c2 f w2 HR2.out hb).mono ?_
        rintro e w3 ⟨rfl, hc3⟩
        have Hc3 := Lib.hid hc3
        clear hc3
        rw [show binText true false false f n = joined [32, 111, 114, 32] f n from rfl]
        have hcat : (⟨#[32]⟩ ++ ⟨#[111, 114, 32]⟩ : ByteArray) = ⟨#[32, 111, 114, 32]⟩ := by rfl
        go_wp2_with fail
        refine (sum8 a2 n c2 f w3 (HR2.out.kept Hc3.out (fun _ _ _ h => h)) hb).mono ?_
        rintro e w4 ⟨rfl, rfl⟩
        have hmk := make29 (16 * (n : Int) + (sumTo f n : Int) + 2) (16 * n + sumTo f n + 2) (by omega) (by omega) w3
        have hst := RowAt.start w2 w3 Hc3.out (16 * n + sumTo f n + 2) (by omega)
        obtain ⟨i0, hi, hz0, hz1, hz2⟩ := info_parts info5
        have hsz3 := Hc3.out.size
        have Hst := Lib.hid hst
        clear hst
        go_wp2_with fail
        clear hmk
        go_loopw [11, 12] (fun s i wr => ∃ k : Nat, ∃ vo L vc, k ≤ n ∧ i = .int .i64 k ∧ s = .slice vo L vc ∧ RowAt w2 wr vo L vc (joined [32, 111, 114, 32] f k)) (fun _ i _ => n - (intOf i).toNat)
        case atStart => exact ⟨0, _, 0, _, by omega, rfl, rfl, by simpa only [joined, List.append_nil, List.nil_append] using Hst.out⟩
        case round =>
          obtain ⟨k, vo, L, vc, hk, rfl, rfl, hr⟩ := hrel
          have hm := sumTo_mono f hk
          have hl := joined_length [32, 111, 114, 32] f k
          have hlen := hr.len
          simp at hl hlen
          have hL : L ≤ 4000000 := by omega
          clear hlen hl
          by_cases hlt : k < n
          · rcases HR2.out with h0 | ⟨g, o, rfl, hR1⟩
            · omega
            have hc := hr.chg.cell (hR1 k hlt) (fun h => h)
            have hgl : g < w2.heap.size := World.block_lt_of_cell? w2 _ (hR1 k hlt)
            clear hR1
            have Hrow := Lib.hid hr
            clear hr
            have hm2 := sumTo_mono f (show k + 1 ≤ n by omega)
            have hms : sumTo f (k + 1) = sumTo f k + (f k).size := rfl
            have hx3 : (k : Int) < (n : Int) := by omega
            have hx4 : (0 : Int) ≤ (k : Int) := by omega
            rcases Nat.eq_zero_or_pos k with hz | hz
            · have Hz := Lib.hid hz
              have hx5 : ¬ (0 : Int) < (k : Int) := by omega
              clear hz
              go_wp2_with (at_builtin; go_loud (refine wpList_append_str_fresh _ rfl (.tmp 58) (.tmp 62) 29 9 rfl w2.heap.size 5 i0 Tryz.underlying29 Tryz.underlying9 hi hz0 hz1 hz2 vo L vc _ rfl Hrow.out.own (f k) rfl (by unfold maxLen; omega) (by omega) (Hrow.out.chg.size) ?_; intro vp2 vcp2 wp2 hown1 hg1 hf1; have Hr2 := Lib.hid (Hrow.out.str hown1 hg1); clear hown1 hg1 hf1))
              go_roundw
              case rel =>
                have hj : joined [32, 111, 114, 32] f (k + 1) = joined [32, 111, 114, 32] f k ++ (f k).data.toList := by simp [joined, Hz.out]
                exact ⟨k + 1, vp2, _, vcp2, by omega, by go_num, rfl, hj ▸ Hr2.out⟩
              case measure => simp [intOf]; omega
            · have hx5 : (0 : Int) < (k : Int) := by omega
              go_wp2_with (first
                | (at_builtin; refine wpList_append_str_fresh _ rfl (.tmp 55) (.tmp 56) 29 9 rfl w2.heap.size 5 i0 Tryz.underlying29 Tryz.underlying9 hi hz0 hz1 hz2 vo L vc _ rfl Hrow.out.own ⟨#[32, 111, 114, 32]⟩ rfl (by unfold maxLen; first | omega | (simp [ByteArray.size]; omega)) (by first | omega | (simp [ByteArray.size]; omega)) (Hrow.out.chg.size) ?_; intro vp1 vcp1 wp1 hown1 hg1 hf1; have Hr1 := Lib.hid (Hrow.out.str hown1 hg1); have hc1 := hg1.cell hc (by intro hh; have := Hrow.out.addr _ hh; simp at this; omega); clear hown1 hg1 hf1)
                | (at_builtin; go_loud (refine wpList_append_str_fresh _ rfl (.tmp 58) (.tmp 62) 29 9 rfl w2.heap.size 5 i0 Tryz.underlying29 Tryz.underlying9 hi hz0 hz1 hz2 vp1 _ vcp1 _ rfl Hr1.out.own (f k) rfl (by unfold maxLen; first | omega | (simp [ByteArray.size]; omega)) (by first | omega | (simp [ByteArray.size]; omega)) (Hr1.out.chg.size) ?_; intro vp2 vcp2 wp2 hown1 hg1 hf1; have Hr2 := Lib.hid (Hr1.out.str hown1 hg1); clear hown1 hg1 hf1)))
              go_roundw
              case rel =>
                have hj : joined [32, 111, 114, 32] f (k + 1) = joined [32, 111, 114, 32] f k ++ [32, 111, 114, 32] ++ (f k).data.toList := by simp [joined, show ¬ k = 0 by omega]
                exact ⟨k + 1, vp2, _, vcp2, by omega, by go_num, rfl, hj ▸ Hr2.out⟩
              case measure => simp [intOf]; omega
          · obtain rfl : k = n := by omega
            have Hrow := Lib.hid hr
            have hcv := hr.conv
            clear hr
            go_wp2_with fail
            go_ret
            exact ⟨rfl, Hc2.out.trans Hrow.out.chg (fun _ _ h => h)⟩
      · have hx2 : (1048576 : Int) < ((16 * n + sumTo f n : Nat) : Int) := by omega
        go_wp2_with fail
        go_ret
        exact ⟨rfl, Chg.refl _ _⟩
  · have hx1 : (65536 : Int) < (n : Int) := by omega
    go_enter Tryz.func4, Tryz.ntmps4
    go_wp2_with fail
    refine (zb7 a n c f _ _ _ w hR hn).mono ?_
    rintro e w1 ⟨r, rfl, rfl, hb⟩
    cases r <;> (go_wp2_with fail; go_ret; exact ⟨rfl, Chg.refl _ _⟩)
set_option maxRecDepth 100000 in
set_option maxHeartbeats 4000000 in
theorem law4_101 (a : Option Addr) (n c : Nat) (f : Nat → ByteArray) (w : World) (hnil : a = none → n = 0) (hn : n ≤ 9223372036854775807) (hR : Reads w a n fun i => .string (f i)) :
    Calls Tryz.prog 4 #[.slice a n c, .bool true, .bool false, .bool true] w (TrueOut w) := by
  by_cases hn1 : n ≤ 65536
  · have hx1 : ¬ (65536 : Int) < (n : Int) := by omega
    have HR := Lib.hid hR
    clear hR
    go_enter Tryz.func4, Tryz.ntmps4
    go_wp2_with fail
    refine (zb7 a n c f _ _ _ w HR.out hn).mono ?_
    rintro e w1 ⟨r, rfl, rfl, hb⟩
    cases r
    · go_wp2_with fail
      go_ret
      exact ⟨rfl, Chg.refl _ _⟩
    · replace hb := hb rfl
      go_wp2_with fail
      refine (sum8 a n c f w HR.out hb).mono ?_
      rintro e w1 ⟨rfl, rfl⟩
      by_cases hs : 16 * n + sumTo f n ≤ 1048576
      · have hx2 : ¬ (1048576 : Int) < ((16 * n + sumTo f n : Nat) : Int) := by omega
        go_wp2_with fail
        refine (clone9 a n c f w hnil (by omega) HR.out).mono ?_
        rintro e w2 ⟨a2, c2, rfl, hR2, hc2, hf2⟩
        have HR2 := Lib.hid hR2
        have Hc2 := Lib.hid hc2
        clear hR2 hc2 hf2
        go_wp2_with fail
        refine (zbin true false true a2 n c2 f w2 HR2.out hb).mono ?_
        rintro e w3 ⟨rfl, hc3⟩
        have Hc3 := Lib.hid hc3
        clear hc3
        rw [show binText true false true f n = [40] ++ joined [32, 111, 114, 32] f n ++ [41] from rfl]
        have hcat : (⟨#[32]⟩ ++ ⟨#[111, 114, 32]⟩ : ByteArray) = ⟨#[32, 111, 114, 32]⟩ := by rfl
        go_wp2_with fail
        refine (sum8 a2 n c2 f w3 (HR2.out.kept Hc3.out (fun _ _ _ h => h)) hb).mono ?_
        rintro e w4 ⟨rfl, rfl⟩
        have hmk := make29 (16 * (n : Int) + (sumTo f n : Int) + 2) (16 * n + sumTo f n + 2) (by omega) (by omega) w3
        have hst := RowAt.start w2 w3 Hc3.out (16 * n + sumTo f n + 2) (by omega)
        obtain ⟨i0, hi, hz0, hz1, hz2⟩ := info_parts info5
        have hsz3 := Hc3.out.size
        have Hst := Lib.hid hst
        clear hst
        go_wp2_with (at_builtin; go_loud (refine wpList_append_fresh _ rfl (.tmp 44) (.tmp 45) 29 rfl w2.heap.size 5 i0 _ 1 1 Tryz.underlying29 hi hz0 hz1 hz2 rfl (by decide) _ _ _ _ rfl (Hst.out.own.alloc _) (some ⟨w3.heap.size + 1, 0, none⟩) 1 1 [.int .u8 40] rfl rfl (by simp) (byte1 _ _ _ (by simp)) (by intro u hu; simp at hu; subst hu; rfl) (by unfold maxLen; omega) (by omega) (by have := Hst.out.chg.size; simp; omega) ?_; intro vp vcp wp hown1 hg1 hf1; have Hr := Lib.hid (Hst.out.byte 40 rfl hown1 hg1); clear hown1 hg1 hf1))
        clear hmk
        go_loopw [11, 12] (fun s i wr => ∃ k : Nat, ∃ vo L vc, k ≤ n ∧ i = .int .i64 k ∧ s = .slice vo L vc ∧ RowAt w2 wr vo L vc ([40] ++ joined [32, 111, 114, 32] f k)) (fun _ i _ => n - (intOf i).toNat)
        case atStart => exact ⟨0, vp, 0 + 1, vcp, by omega, rfl, rfl, by simpa only [joined, List.append_nil, List.nil_append] using Hr.out⟩
        case round =>
          obtain ⟨k, vo, L, vc, hk, rfl, rfl, hr⟩ := hrel
          have hm := sumTo_mono f hk
          have hl := joined_length [32, 111, 114, 32] f k
          have hlen := hr.len
          simp at hl hlen
          have hL : L ≤ 4000000 := by omega
          clear hlen hl
          by_cases hlt : k < n
          · rcases HR2.out with h0 | ⟨g, o, rfl, hR1⟩
            · omega
            have hc := hr.chg.cell (hR1 k hlt) (fun h => h)
            have hgl : g < w2.heap.size := World.block_lt_of_cell? w2 _ (hR1 k hlt)
            clear hR1
            have Hrow := Lib.hid hr
            clear hr
            have hm2 := sumTo_mono f (show k + 1 ≤ n by omega)
            have hms : sumTo f (k + 1) = sumTo f k + (f k).size := rfl
            have hx3 : (k : Int) < (n : Int) := by omega
            have hx4 : (0 : Int) ≤ (k : Int) := by omega
            rcases Nat.eq_zero_or_pos k with hz | hz
            · have Hz := Lib.hid hz
              have hx5 : ¬ (0 : Int) < (k : Int) := by omega
              clear hz
              go_wp2_with (at_builtin; go_loud (refine wpList_append_str_fresh _ rfl (.tmp 58) (.tmp 62) 29 9 rfl w2.heap.size 5 i0 Tryz.underlying29 Tryz.underlying9 hi hz0 hz1 hz2 vo L vc _ rfl Hrow.out.own (f k) rfl (by unfold maxLen; omega) (by omega) (Hrow.out.chg.size) ?_; intro vp2 vcp2 wp2 hown1 hg1 hf1; have Hr2 := Lib.hid (Hrow.out.str hown1 hg1); clear hown1 hg1 hf1))
              go_roundw
              case rel =>
                have hj : [40] ++ joined [32, 111, 114, 32] f (k + 1) = [40] ++ joined [32, 111, 114, 32] f k ++ (f k).data.toList := by simp [joined, Hz.out]
                exact ⟨k + 1, vp2, _, vcp2, by omega, by go_num, rfl, hj ▸ Hr2.out⟩
              case measure => simp [intOf]; omega
            · have hx5 : (0 : Int) < (k : Int) := by omega
              go_wp2_with (first
                | (at_builtin; refine wpList_append_str_fresh _ rfl (.tmp 55) (.tmp 56) 29 9 rfl w2.heap.size 5 i0 Tryz.underlying29 Tryz.underlying9 hi hz0 hz1 hz2 vo L vc _ rfl Hrow.out.own ⟨#[32, 111, 114, 32]⟩ rfl (by unfold maxLen; first | omega | (simp [ByteArray.size]; omega)) (by first | omega | (simp [ByteArray.size]; omega)) (Hrow.out.chg.size) ?_; intro vp1 vcp1 wp1 hown1 hg1 hf1; have Hr1 := Lib.hid (Hrow.out.str hown1 hg1); have hc1 := hg1.cell hc (by intro hh; have := Hrow.out.addr _ hh; simp at this; omega); clear hown1 hg1 hf1)
                | (at_builtin; go_loud (refine wpList_append_str_fresh _ rfl (.tmp 58) (.tmp 62) 29 9 rfl w2.heap.size 5 i0 Tryz.underlying29 Tryz.underlying9 hi hz0 hz1 hz2 vp1 _ vcp1 _ rfl Hr1.out.own (f k) rfl (by unfold maxLen; first | omega | (simp [ByteArray.size]; omega)) (by first | omega | (simp [ByteArray.size]; omega)) (Hr1.out.chg.size) ?_; intro vp2 vcp2 wp2 hown1 hg1 hf1; have Hr2 := Lib.hid (Hr1.out.str hown1 hg1); clear hown1 hg1 hf1)))
              go_roundw
              case rel =>
                have hj : [40] ++ joined [32, 111, 114, 32] f (k + 1) = [40] ++ joined [32, 111, 114, 32] f k ++ [32, 111, 114, 32] ++ (f k).data.toList := by simp [joined, show ¬ k = 0 by omega]
                exact ⟨k + 1, vp2, _, vcp2, by omega, by go_num, rfl, hj ▸ Hr2.out⟩
              case measure => simp [intOf]; omega
          · obtain rfl : k = n := by omega
            have Hrow := Lib.hid hr
            clear hr
            have hcv : ∀ (vo : Option Addr) (L vc : Nat) (wr : World), RowAt w2 wr vo L vc ([40] ++ joined [32, 111, 114, 32] f k ++ [41]) → (convert 29 9 (.slice vo L vc)).run Tryz.prog wr = .ok (.string ⟨([40] ++ joined [32, 111, 114, 32] f k ++ [41]).toArray⟩) wr := fun _ _ _ _ h => h.conv
            go_wp2_with (at_builtin; go_loud (refine wpList_append_fresh _ rfl (.tmp 65) (.tmp 66) 29 rfl w2.heap.size 5 i0 _ 1 1 Tryz.underlying29 hi hz0 hz1 hz2 rfl (by decide) vo L vc _ rfl (Hrow.out.own.alloc _) (some ⟨wr.heap.size, 0, none⟩) 1 1 [.int .u8 41] rfl rfl (by simp) (byte1 _ _ _ (by simp)) (by intro u hu; simp at hu; subst hu; rfl) (by unfold maxLen; omega) (by omega) (by have := Hrow.out.chg.size; simp; omega) ?_; intro vp9 vcp9 wp9 hown1 hg1 hf1; have Hr9 := Lib.hid (Hrow.out.byte 41 rfl hown1 hg1); have hcv2 := hcv _ _ _ _ Hr9.out; clear hown1 hg1 hf1 hcv))
            go_ret
            exact ⟨rfl, Hc2.out.trans Hr9.out.chg (fun _ _ h => h)⟩
      · have hx2 : (1048576 : Int) < ((16 * n + sumTo f n : Nat) : Int) := by omega
        go_wp2_with fail
        go_ret
        exact ⟨rfl, Chg.refl _ _⟩
  · have hx1 : (65536 : Int) < (n : Int) := by omega
    go_enter Tryz.func4, Tryz.ntmps4
    go_wp2_with fail
    refine (zb7 a n c f _ _ _ w hR hn).mono ?_
    rintro e w1 ⟨r, rfl, rfl, hb⟩
    cases r <;> (go_wp2_with fail; go_ret; exact ⟨rfl, Chg.refl _ _⟩)
set_option maxRecDepth 100000 in
set_option maxHeartbeats 4000000 in
theorem law4_110 (a : Option Addr) (n c : Nat) (f : Nat → ByteArray) (w : World) (hnil : a = none → n = 0) (hn : n ≤ 9223372036854775807) (hR : Reads w a n fun i => .string (f i)) :
    Calls Tryz.prog 4 #[.slice a n c, .bool true, .bool true, .bool false] w (TrueOut w) := by
  by_cases hn1 : n ≤ 65536
  · have hx1 : ¬ (65536 : Int) < (n : Int) := by omega
    have HR := Lib.hid hR
    clear hR
    go_enter Tryz.func4, Tryz.ntmps4
    go_wp2_with fail
    refine (zb7 a n c f _ _ _ w HR.out hn).mono ?_
    rintro e w1 ⟨r, rfl, rfl, hb⟩
    cases r
    · go_wp2_with fail
      go_ret
      exact ⟨rfl, Chg.refl _ _⟩
    · replace hb := hb rfl
      go_wp2_with fail
      refine (sum8 a n c f w HR.out hb).mono ?_
      rintro e w1 ⟨rfl, rfl⟩
      by_cases hs : 16 * n + sumTo f n ≤ 1048576
      · have hx2 : ¬ (1048576 : Int) < ((16 * n + sumTo f n : Nat) : Int) := by omega
        go_wp2_with fail
        refine (clone9 a n c f w hnil (by omega) HR.out).mono ?_
        rintro e w2 ⟨a2, c2, rfl, hR2, hc2, hf2⟩
        have HR2 := Lib.hid hR2
        have Hc2 := Lib.hid hc2
        clear hR2 hc2 hf2
        go_wp2_with fail
        refine (zbin true true false a2 n c2 f w2 HR2.out hb).mono ?_
        rintro e w3 ⟨rfl, hc3⟩
        have Hc3 := Lib.hid hc3
        clear hc3
        rw [show binText true true false f n = joined [111, 114, 32] f n from rfl]
        go_wp2_with fail
        refine (sum8 a2 n c2 f w3 (HR2.out.kept Hc3.out (fun _ _ _ h => h)) hb).mono ?_
        rintro e w4 ⟨rfl, rfl⟩
        have hmk := make29 (16 * (n : Int) + (sumTo f n : Int) + 2) (16 * n + sumTo f n + 2) (by omega) (by omega) w3
        have hst := RowAt.start w2 w3 Hc3.out (16 * n + sumTo f n + 2) (by omega)
        obtain ⟨i0, hi, hz0, hz1, hz2⟩ := info_parts info5
        have hsz3 := Hc3.out.size
        have Hst := Lib.hid hst
        clear hst
        go_wp2_with fail
        clear hmk
        go_loopw [11, 12] (fun s i wr => ∃ k : Nat, ∃ vo L vc, k ≤ n ∧ i = .int .i64 k ∧ s = .slice vo L vc ∧ RowAt w2 wr vo L vc (joined [111, 114, 32] f k)) (fun _ i _ => n - (intOf i).toNat)
        case atStart => exact ⟨0, _, 0, _, by omega, rfl, rfl, by simpa only [joined, List.append_nil, List.nil_append] using Hst.out⟩
        case round =>
          obtain ⟨k, vo, L, vc, hk, rfl, rfl, hr⟩ := hrel
          have hm := sumTo_mono f hk
          have hl := joined_length [111, 114, 32] f k
          have hlen := hr.len
          simp at hl hlen
          have hL : L ≤ 4000000 := by omega
          clear hlen hl
          by_cases hlt : k < n
          · rcases HR2.out with h0 | ⟨g, o, rfl, hR1⟩
            · omega
            have hc := hr.chg.cell (hR1 k hlt) (fun h => h)
            have hgl : g < w2.heap.size := World.block_lt_of_cell? w2 _ (hR1 k hlt)
            clear hR1
            have Hrow := Lib.hid hr
            clear hr
            have hm2 := sumTo_mono f (show k + 1 ≤ n by omega)
            have hms : sumTo f (k + 1) = sumTo f k + (f k).size := rfl
            have hx3 : (k : Int) < (n : Int) := by omega
            have hx4 : (0 : Int) ≤ (k : Int) := by omega
            rcases Nat.eq_zero_or_pos k with hz | hz
            · have Hz := Lib.hid hz
              have hx5 : ¬ (0 : Int) < (k : Int) := by omega
              clear hz
              go_wp2_with (at_builtin; go_loud (refine wpList_append_str_fresh _ rfl (.tmp 58) (.tmp 62) 29 9 rfl w2.heap.size 5 i0 Tryz.underlying29 Tryz.underlying9 hi hz0 hz1 hz2 vo L vc _ rfl Hrow.out.own (f k) rfl (by unfold maxLen; omega) (by omega) (Hrow.out.chg.size) ?_; intro vp2 vcp2 wp2 hown1 hg1 hf1; have Hr2 := Lib.hid (Hrow.out.str hown1 hg1); clear hown1 hg1 hf1))
              go_roundw
              case rel =>
                have hj : joined [111, 114, 32] f (k + 1) = joined [111, 114, 32] f k ++ (f k).data.toList := by simp [joined, Hz.out]
                exact ⟨k + 1, vp2, _, vcp2, by omega, by go_num, rfl, hj ▸ Hr2.out⟩
              case measure => simp [intOf]; omega
            · have hx5 : (0 : Int) < (k : Int) := by omega
              go_wp2_with (first
                | (at_builtin; refine wpList_append_str_fresh _ rfl (.tmp 55) (.tmp 56) 29 9 rfl w2.heap.size 5 i0 Tryz.underlying29 Tryz.underlying9 hi hz0 hz1 hz2 vo L vc _ rfl Hrow.out.own ⟨#[111, 114, 32]⟩ rfl (by unfold maxLen; first | omega | (simp [ByteArray.size]; omega)) (by first | omega | (simp [ByteArray.size]; omega)) (Hrow.out.chg.size) ?_; intro vp1 vcp1 wp1 hown1 hg1 hf1; have Hr1 := Lib.hid (Hrow.out.str hown1 hg1); have hc1 := hg1.cell hc (by intro hh; have := Hrow.out.addr _ hh; simp at this; omega); clear hown1 hg1 hf1)
                | (at_builtin; go_loud (refine wpList_append_str_fresh _ rfl (.tmp 58) (.tmp 62) 29 9 rfl w2.heap.size 5 i0 Tryz.underlying29 Tryz.underlying9 hi hz0 hz1 hz2 vp1 _ vcp1 _ rfl Hr1.out.own (f k) rfl (by unfold maxLen; first | omega | (simp [ByteArray.size]; omega)) (by first | omega | (simp [ByteArray.size]; omega)) (Hr1.out.chg.size) ?_; intro vp2 vcp2 wp2 hown1 hg1 hf1; have Hr2 := Lib.hid (Hr1.out.str hown1 hg1); clear hown1 hg1 hf1)))
              go_roundw
              case rel =>
                have hj : joined [111, 114, 32] f (k + 1) = joined [111, 114, 32] f k ++ [111, 114, 32] ++ (f k).data.toList := by simp [joined, show ¬ k = 0 by omega]
                exact ⟨k + 1, vp2, _, vcp2, by omega, by go_num, rfl, hj ▸ Hr2.out⟩
              case measure => simp [intOf]; omega
          · obtain rfl : k = n := by omega
            have Hrow := Lib.hid hr
            have hcv := hr.conv
            clear hr
            go_wp2_with fail
            go_ret
            exact ⟨rfl, Hc2.out.trans Hrow.out.chg (fun _ _ h => h)⟩
      · have hx2 : (1048576 : Int) < ((16 * n + sumTo f n : Nat) : Int) := by omega
        go_wp2_with fail
        go_ret
        exact ⟨rfl, Chg.refl _ _⟩
  · have hx1 : (65536 : Int) < (n : Int) := by omega
    go_enter Tryz.func4, Tryz.ntmps4
    go_wp2_with fail
    refine (zb7 a n c f _ _ _ w hR hn).mono ?_
    rintro e w1 ⟨r, rfl, rfl, hb⟩
    cases r <;> (go_wp2_with fail; go_ret; exact ⟨rfl, Chg.refl _ _⟩)
set_option maxRecDepth 100000 in
set_option maxHeartbeats 4000000 in
theorem law4_111 (a : Option Addr) (n c : Nat) (f : Nat → ByteArray) (w : World) (hnil : a = none → n = 0) (hn : n ≤ 9223372036854775807) (hR : Reads w a n fun i => .string (f i)) :
    Calls Tryz.prog 4 #[.slice a n c, .bool true, .bool true, .bool true] w (TrueOut w) := by
  by_cases hn1 : n ≤ 65536
  · have hx1 : ¬ (65536 : Int) < (n : Int) := by omega
    have HR := Lib.hid hR
    clear hR
    go_enter Tryz.func4, Tryz.ntmps4
    go_wp2_with fail
    refine (zb7 a n c f _ _ _ w HR.out hn).mono ?_
    rintro e w1 ⟨r, rfl, rfl, hb⟩
    cases r
    · go_wp2_with fail
      go_ret
      exact ⟨rfl, Chg.refl _ _⟩
    · replace hb := hb rfl
      go_wp2_with fail
      refine (sum8 a n c f w HR.out hb).mono ?_
      rintro e w1 ⟨rfl, rfl⟩
      by_cases hs : 16 * n + sumTo f n ≤ 1048576
      · have hx2 : ¬ (1048576 : Int) < ((16 * n + sumTo f n : Nat) : Int) := by omega
        go_wp2_with fail
        refine (clone9 a n c f w hnil (by omega) HR.out).mono ?_
        rintro e w2 ⟨a2, c2, rfl, hR2, hc2, hf2⟩
        have HR2 := Lib.hid hR2
        have Hc2 := Lib.hid hc2
        clear hR2 hc2 hf2
        go_wp2_with fail
        refine (zbin true true true a2 n c2 f w2 HR2.out hb).mono ?_
        rintro e w3 ⟨rfl, hc3⟩
        have Hc3 := Lib.hid hc3
        clear hc3
        rw [show binText true true true f n = [40] ++ joined [111, 114, 32] f n ++ [41] from rfl]
        go_wp2_with fail
        refine (sum8 a2 n c2 f w3 (HR2.out.kept Hc3.out (fun _ _ _ h => h)) hb).mono ?_
        rintro e w4 ⟨rfl, rfl⟩
        have hmk := make29 (16 * (n : Int) + (sumTo f n : Int) + 2) (16 * n + sumTo f n + 2) (by omega) (by omega) w3
        have hst := RowAt.start w2 w3 Hc3.out (16 * n + sumTo f n + 2) (by omega)
        obtain ⟨i0, hi, hz0, hz1, hz2⟩ := info_parts info5
        have hsz3 := Hc3.out.size
        have Hst := Lib.hid hst
        clear hst
        go_wp2_with (at_builtin; go_loud (refine wpList_append_fresh _ rfl (.tmp 44) (.tmp 45) 29 rfl w2.heap.size 5 i0 _ 1 1 Tryz.underlying29 hi hz0 hz1 hz2 rfl (by decide) _ _ _ _ rfl (Hst.out.own.alloc _) (some ⟨w3.heap.size + 1, 0, none⟩) 1 1 [.int .u8 40] rfl rfl (by simp) (byte1 _ _ _ (by simp)) (by intro u hu; simp at hu; subst hu; rfl) (by unfold maxLen; omega) (by omega) (by have := Hst.out.chg.size; simp; omega) ?_; intro vp vcp wp hown1 hg1 hf1; have Hr := Lib.hid (Hst.out.byte 40 rfl hown1 hg1); clear hown1 hg1 hf1))
        clear hmk
        go_loopw [11, 12] (fun s i wr => ∃ k : Nat, ∃ vo L vc, k ≤ n ∧ i = .int .i64 k ∧ s = .slice vo L vc ∧ RowAt w2 wr vo L vc ([40] ++ joined [111, 114, 32] f k)) (fun _ i _ => n - (intOf i).toNat)
        case atStart => exact ⟨0, vp, 0 + 1, vcp, by omega, rfl, rfl, by simpa only [joined, List.append_nil, List.nil_append] using Hr.out⟩
        case round =>
          obtain ⟨k, vo, L, vc, hk, rfl, rfl, hr⟩ := hrel
          have hm := sumTo_mono f hk
          have hl := joined_length [111, 114, 32] f k
          have hlen := hr.len
          simp at hl hlen
          have hL : L ≤ 4000000 := by omega
          clear hlen hl
          by_cases hlt : k < n
          · rcases HR2.out with h0 | ⟨g, o, rfl, hR1⟩
            · omega
            have hc := hr.chg.cell (hR1 k hlt) (fun h => h)
            have hgl : g < w2.heap.size := World.block_lt_of_cell? w2 _ (hR1 k hlt)
            clear hR1
            have Hrow := Lib.hid hr
            clear hr
            have hm2 := sumTo_mono f (show k + 1 ≤ n by omega)
            have hms : sumTo f (k + 1) = sumTo f k + (f k).size := rfl
            have hx3 : (k : Int) < (n : Int) := by omega
            have hx4 : (0 : Int) ≤ (k : Int) := by omega
            rcases Nat.eq_zero_or_pos k with hz | hz
            · have Hz := Lib.hid hz
              have hx5 : ¬ (0 : Int) < (k : Int) := by omega
              clear hz
              go_wp2_with (at_builtin; go_loud (refine wpList_append_str_fresh _ rfl (.tmp 58) (.tmp 62) 29 9 rfl w2.heap.size 5 i0 Tryz.underlying29 Tryz.underlying9 hi hz0 hz1 hz2 vo L vc _ rfl Hrow.out.own (f k) rfl (by unfold maxLen; omega) (by omega) (Hrow.out.chg.size) ?_; intro vp2 vcp2 wp2 hown1 hg1 hf1; have Hr2 := Lib.hid (Hrow.out.str hown1 hg1); clear hown1 hg1 hf1))
              go_roundw
              case rel =>
                have hj : [40] ++ joined [111, 114, 32] f (k + 1) = [40] ++ joined [111, 114, 32] f k ++ (f k).data.toList := by simp [joined, Hz.out]
                exact ⟨k + 1, vp2, _, vcp2, by omega, by go_num, rfl, hj ▸ Hr2.out⟩
              case measure => simp [intOf]; omega
            · have hx5 : (0 : Int) < (k : Int) := by omega
              go_wp2_with (first
                | (at_builtin; refine wpList_append_str_fresh _ rfl (.tmp 55) (.tmp 56) 29 9 rfl w2.heap.size 5 i0 Tryz.underlying29 Tryz.underlying9 hi hz0 hz1 hz2 vo L vc _ rfl Hrow.out.own ⟨#[111, 114, 32]⟩ rfl (by unfold maxLen; first | omega | (simp [ByteArray.size]; omega)) (by first | omega | (simp [ByteArray.size]; omega)) (Hrow.out.chg.size) ?_; intro vp1 vcp1 wp1 hown1 hg1 hf1; have Hr1 := Lib.hid (Hrow.out.str hown1 hg1); have hc1 := hg1.cell hc (by intro hh; have := Hrow.out.addr _ hh; simp at this; omega); clear hown1 hg1 hf1)
                | (at_builtin; go_loud (refine wpList_append_str_fresh _ rfl (.tmp 58) (.tmp 62) 29 9 rfl w2.heap.size 5 i0 Tryz.underlying29 Tryz.underlying9 hi hz0 hz1 hz2 vp1 _ vcp1 _ rfl Hr1.out.own (f k) rfl (by unfold maxLen; first | omega | (simp [ByteArray.size]; omega)) (by first | omega | (simp [ByteArray.size]; omega)) (Hr1.out.chg.size) ?_; intro vp2 vcp2 wp2 hown1 hg1 hf1; have Hr2 := Lib.hid (Hr1.out.str hown1 hg1); clear hown1 hg1 hf1)))
              go_roundw
              case rel =>
                have hj : [40] ++ joined [111, 114, 32] f (k + 1) = [40] ++ joined [111, 114, 32] f k ++ [111, 114, 32] ++ (f k).data.toList := by simp [joined, show ¬ k = 0 by omega]
                exact ⟨k + 1, vp2, _, vcp2, by omega, by go_num, rfl, hj ▸ Hr2.out⟩
              case measure => simp [intOf]; omega
          · obtain rfl : k = n := by omega
            have Hrow := Lib.hid hr
            clear hr
            have hcv : ∀ (vo : Option Addr) (L vc : Nat) (wr : World), RowAt w2 wr vo L vc ([40] ++ joined [111, 114, 32] f k ++ [41]) → (convert 29 9 (.slice vo L vc)).run Tryz.prog wr = .ok (.string ⟨([40] ++ joined [111, 114, 32] f k ++ [41]).toArray⟩) wr := fun _ _ _ _ h => h.conv
            go_wp2_with (at_builtin; go_loud (refine wpList_append_fresh _ rfl (.tmp 65) (.tmp 66) 29 rfl w2.heap.size 5 i0 _ 1 1 Tryz.underlying29 hi hz0 hz1 hz2 rfl (by decide) vo L vc _ rfl (Hrow.out.own.alloc _) (some ⟨wr.heap.size, 0, none⟩) 1 1 [.int .u8 41] rfl rfl (by simp) (byte1 _ _ _ (by simp)) (by intro u hu; simp at hu; subst hu; rfl) (by unfold maxLen; omega) (by omega) (by have := Hrow.out.chg.size; simp; omega) ?_; intro vp9 vcp9 wp9 hown1 hg1 hf1; have Hr9 := Lib.hid (Hrow.out.byte 41 rfl hown1 hg1); have hcv2 := hcv _ _ _ _ Hr9.out; clear hown1 hg1 hf1 hcv))
            go_ret
            exact ⟨rfl, Hc2.out.trans Hr9.out.chg (fun _ _ h => h)⟩
      · have hx2 : (1048576 : Int) < ((16 * n + sumTo f n : Nat) : Int) := by omega
        go_wp2_with fail
        go_ret
        exact ⟨rfl, Chg.refl _ _⟩
  · have hx1 : (65536 : Int) < (n : Int) := by omega
    go_enter Tryz.func4, Tryz.ntmps4
    go_wp2_with fail
    refine (zb7 a n c f _ _ _ w hR hn).mono ?_
    rintro e w1 ⟨r, rfl, rfl, hb⟩
    cases r <;> (go_wp2_with fail; go_ret; exact ⟨rfl, Chg.refl _ _⟩)
theorem law4 (a : Option Addr) (n c : Nat) (f : Nat → ByteArray) (o m fl : Bool) (w : World) (hnil : a = none → n = 0) (hn : n ≤ 9223372036854775807) (hR : Reads w a n fun i => .string (f i)) :
    Calls Tryz.prog 4 #[.slice a n c, .bool o, .bool m, .bool fl] w (TrueOut w) := by
  cases o <;> cases m <;> cases fl
  · exact law4_000 a n c f w hnil hn hR
  · exact law4_001 a n c f w hnil hn hR
  · exact law4_010 a n c f w hnil hn hR
  · exact law4_011 a n c f w hnil hn hR
  · exact law4_100 a n c f w hnil hn hR
  · exact law4_101 a n c f w hnil hn hR
  · exact law4_110 a n c f w hnil hn hR
  · exact law4_111 a n c f w hnil hn hR
end Go.Proofs.YtogkpfdnfjlflaaGreatFmt
