/-
  Proved: contract of zzObjectEntry where every key is an expansion key: the keys lie sorted. No statement of the seat stands here.
-/
import Derived.Test.YtcbmankbjgbjgaaGreatFmtStable
namespace Go.Proofs.YtcbmankbjgbjgaaGreatFmt
open Go.RowKit Go.ChangeAt
set_option linter.unusedSimpArgs false
set_option linter.unusedVariables false
set_option maxRecDepth 100000
def yesAt (_ : Nat) : Value := .bool true
/-- The cells of the first k items. -/
def itemsL (f t : Nat → ByteArray) : Nat → List Value
  | 0 => []
  | k + 1 => itemsL f t k ++ (item (f k) (t k)).toList
theorem itemsL_len (f t : Nat → ByteArray) : ∀ k, (itemsL f t k).length = k * 10
  | 0 => rfl
  | k + 1 => by
    unfold itemsL
    rw [List.length_append, itemsL_len f t k]
    show k * 10 + 10 = _
    omega
theorem itemsL_get (f t : Nat → ByteArray) : ∀ k i q, i < k → q < 10 → (itemsL f t k)[i * 10 + q]? = (item (f i) (t i))[q]?
  | 0, i, q, h, _ => by omega
  | k + 1, i, q, h, hq => by
    unfold itemsL
    have hl := itemsL_len f t k
    by_cases e : i < k
    · rw [List.getElem?_append_left (by omega)]
      exact itemsL_get f t k i q e hq
    · obtain rfl : i = k := by omega
      rw [List.getElem?_append_right (by omega), show i * 10 + q - (itemsL f t i).length = q by omega, Array.getElem?_toList]
/-- Where the expansion keys lie. -/
structure ExpTo (w wr : World) (k : Nat) (vo : Option Addr) (vc : Nat) (f t : Nat → ByteArray) : Prop where
  own : wr.ownsRow (w.heap.size + 2) 71 10 (.slice vo k vc) k (itemsL f t k)
theorem inRow_own2 {w : World} {B : Nat} {e : TypeId} {sz n vc : Nat} {vo : Option Addr} {xs : List Value} (h2 : w.ownsRow B e sz (.slice vo n vc) n xs) : ∀ k, InRow vo k → B ≤ k ∧ k < w.heap.size := by
  rintro k ⟨x, rfl, rfl⟩
  rcases ownsRow_addr h2 with ⟨h3, _⟩ | ⟨g, h3, h4, h5⟩
  · cases h3
  · injection h3 with h3
    subst h3
    exact ⟨h4, h5⟩
theorem ownBlock_in {vo : Option Addr} {n vc k : Nat} (h : (Value.slice vo n vc).ownBlock = some k) : InRow vo k := by
  cases vo with
  | none => cases h
  | some a => injection h with h; exact ⟨a, rfl, h⟩
theorem ExpTo.keep {S : Nat → Prop} {w wr w' : World} {k : Nat} {vo : Option Addr} {vc : Nat} {f t : Nat → ByteArray} (h : ExpTo w wr k vo vc f t) (hc : Chg S wr w') (hn : ∀ x, InRow vo x → ¬ S x) : ExpTo w w' k vo vc f t :=
  ⟨hc.owns h.own fun x hx => hn x (ownBlock_in hx)⟩
theorem ExpTo.tbl {w wr : World} {n : Nat} {vo : Option Addr} {vc : Nat} {f t : Nat → ByteArray} (h : ExpTo w wr n vo vc f t) (hn : 1 ≤ n) : ∃ g, vo = some ⟨g, 0, none⟩ ∧ w.heap.size + 2 ≤ g ∧ Tbl wr g n f t (fun x => x) := by
  rcases h.own.2 with ⟨_, h0⟩ | ⟨g, cap, cur, hv, hb, hg, hnc, hcm, hcs, htake⟩
  · omega
  · injection hv with e1 e2 e3
    subst e1 e3
    refine ⟨g, rfl, hb, cur, hg, by rw [hcs]; exact Nat.mul_le_mul_right 10 hnc, fun i hi q hq => ?_⟩
    have hlt : i * 10 + q < n * 10 := by omega
    have := itemsL_get f t n i q hi hq
    rw [← htake, List.getElem?_take_of_lt hlt, Array.getElem?_toList] at this
    exact this
theorem ItemsTo.keepS {S : Nat → Prop} {w wr w' : World} {g n k : Nat} {f t : Nat → ByteArray} (h : ItemsTo w wr g n k f t) (hc : Chg S wr w') (h1 : ∀ x, x ≤ w.heap.size ∨ x = g → ¬ S x) : ItemsTo w w' g n k f t := by
  obtain ⟨cur, b1, b2⟩ := h.blk
  exact ⟨hc.heap h.r (h1 _ (.inl (Nat.le_refl _))), ⟨cur, hc.heap b1 (h1 _ (.inr rfl)), b2⟩, h.chg.trans hc (fun x hx hs => absurd hs (h1 x (.inl (by omega)))), h.ne⟩
def oentx (ma : Option Addr) (n mc : Nat) (ea : Option Addr) (en ec : Nat) : Array Value := #[.string ⟨#[]⟩, .slice none 0 0, .slice ma n mc, .slice ea en ec, .int .i32 0, .int .i32 0, .int .u8 3]
def ObjxOut (n : Nat) (f t : Nat → ByteArray) (L : Nat → Nat) (w : World) (e : Ending) (w' : World) : Prop := ∃ ma mc g ec s, e = .returned (.agg (oentx ma n mc (some ⟨g, 0, none⟩) n ec)) ∧ Items w' ma n f t ∧ Tbl w' g n f t s ∧ Stab.Blk (KL L) s 0 n ∧ Chg Nowhere w w'
theorem item_cells {w : World} {b : Nat} {x y : ByteArray} (hb : w.heap[b]? = some (.cells (item x y) 71 (0, 0))) : w.cell? ⟨b, 0, none⟩ = some (.string x) ∧ w.cell? ⟨b, 1, none⟩ = some (.string y) ∧ w.cell? ⟨b, 2, none⟩ = some (.slice none 0 0) ∧ w.cell? ⟨b, 3, none⟩ = some (.slice none 0 0) ∧ w.cell? ⟨b, 4, none⟩ = some (.slice none 0 0) ∧ w.cell? ⟨b, 5, none⟩ = some (.int .i32 0) ∧ w.cell? ⟨b, 6, none⟩ = some (.int .i32 0) ∧ w.cell? ⟨b, 7, none⟩ = some (.int .u8 1) ∧ w.cell? ⟨b, 8, none⟩ = some (.int .i32 0) ∧ w.cell? ⟨b, 9, none⟩ = some (.int .i32 0) := by
  refine ⟨?_, ?_, ?_, ?_, ?_, ?_, ?_, ?_, ?_, ?_⟩ <;> (rw [cell_of_heap hb]; rfl)
theorem mem_cells {w wr : World} {g n k : Nat} {f t : Nat → ByteArray} (h : ItemsTo w wr g n k f t) (hk : k < n) : ∃ v0 v1 v2 v3 v4 v5 v6 v7 v8 v9, wr.cell? ⟨g, k * 10, none⟩ = some v0 ∧ wr.cell? ⟨g, k * 10 + 1, none⟩ = some v1 ∧ wr.cell? ⟨g, k * 10 + 2, none⟩ = some v2 ∧ wr.cell? ⟨g, k * 10 + 3, none⟩ = some v3 ∧ wr.cell? ⟨g, k * 10 + 4, none⟩ = some v4 ∧ wr.cell? ⟨g, k * 10 + 5, none⟩ = some v5 ∧ wr.cell? ⟨g, k * 10 + 6, none⟩ = some v6 ∧ wr.cell? ⟨g, k * 10 + 7, none⟩ = some v7 ∧ wr.cell? ⟨g, k * 10 + 8, none⟩ = some v8 ∧ wr.cell? ⟨g, k * 10 + 9, none⟩ = some v9 ∧ (∀ j, wr.frozen? ⟨g, j, none⟩ = false) ∧ g < wr.heap.size := by
  obtain ⟨cur, b1, b2, b3⟩ := h.blk
  have hszb : k * 10 + 10 ≤ cur.size := by rw [b2]; have := Nat.mul_le_mul_right 10 (show k + 1 ≤ n by omega); omega
  have key : ∀ j, j < cur.size → ∃ v, wr.cell? ⟨g, j, none⟩ = some v := fun j hj => ⟨cur[j], by rw [cell_of_heap b1, Array.getElem?_eq_getElem hj]⟩
  obtain ⟨v0, h0⟩ := key (k * 10 + 0) (by omega)
  obtain ⟨v1, h1⟩ := key (k * 10 + 1) (by omega)
  obtain ⟨v2, h2⟩ := key (k * 10 + 2) (by omega)
  obtain ⟨v3, h3⟩ := key (k * 10 + 3) (by omega)
  obtain ⟨v4, h4⟩ := key (k * 10 + 4) (by omega)
  obtain ⟨v5, h5⟩ := key (k * 10 + 5) (by omega)
  obtain ⟨v6, h6⟩ := key (k * 10 + 6) (by omega)
  obtain ⟨v7, h7⟩ := key (k * 10 + 7) (by omega)
  obtain ⟨v8, h8⟩ := key (k * 10 + 8) (by omega)
  obtain ⟨v9, h9⟩ := key (k * 10 + 9) (by omega)
  exact ⟨v0, v1, v2, v3, v4, v5, v6, v7, v8, v9, h0, h1, h2, h3, h4, h5, h6, h7, h8, h9, fun j => frozen_of_heap b1 j, heap_lt b1⟩
set_option maxHeartbeats 16000000 in
theorem obj23x (a b d : Option Addr) (n c c2 c3 : Nat) (f t : Nat → ByteArray) (L : Nat → Nat) (w : World) (hS : Star f L) (hF : Reads w a n (strAt f)) (hT : Reads w b n (strAt t)) (hD : Reads w d n yesAt) (hn : n ≤ 1048576) (hn1 : 1 ≤ n) :
    Calls Tryz.prog 23 #[.slice a n c, .slice b n c2, .slice d n c3] w (ObjxOut n f t L w) := by
  have HF := Lib.hid hF
  have HT := Lib.hid hT
  have HD := Lib.hid hD
  have HS := Lib.hid hS
  clear hF hT hD hS
  have hmk := make55 n hn
  have hmk2 := make56 n hn
  obtain ⟨ti, hi0, hz0, hz1, hz2⟩ := info_parts info71
  have HI := Lib.hid (And.intro hi0 (And.intro hz0 (And.intro hz1 hz2)))
  clear hi0 hz0 hz1 hz2
  have H0 : Hid (ItemsTo w (((w.alloc (.cells zent 59)).alloc (.cells (madeCells item0 (n * 10)) 71)).alloc (.cells (madeCells item0 (n * 10)) 71)) (w.heap.size + 1) n 0 f t) := Lib.hid
    ⟨heap_keep (heap_keep (heap_at w _ _ rfl) _) _, ⟨_, heap_keep (heap_at _ _ _ (by simp)) _, size_madeCells _ _, fun i hi => by omega⟩, (((Chg.refl _ w).alloc _).alloc _).alloc _, by omega, by omega⟩
  have E0 : Hid (ExpTo w (((w.alloc (.cells zent 59)).alloc (.cells (madeCells item0 (n * 10)) 71)).alloc (.cells (madeCells item0 (n * 10)) 71)) 0 (some ⟨w.heap.size + 1 + 1, 0, none⟩) n f t) := by
    have h := World.ownsRow_made (base := w.heap.size + 2) (size := 10) (e := 71) ((w.alloc (.cells zent 59)).alloc (.cells (madeCells item0 (n * 10)) 71)) (madeCells item0 (n * 10)) n (by simp) (by unfold maxLen; omega) (size_madeCells _ _)
    have hsz : ((w.alloc (.cells zent 59)).alloc (.cells (madeCells item0 (n * 10)) 71)).heap.size = w.heap.size + 1 + 1 := by simp
    rw [hsz] at h
    exact Lib.hid ⟨h⟩
  unfold zent at H0 E0
  go_enter Tryz.func23, Tryz.ntmps23
  go_wp2_with fail
  clear hmk hmk2
  generalize hw0 : World.alloc (World.alloc (World.alloc w _) _) _ = w0 at H0 E0 ⊢
  clear hw0
  go_loopw [8, 19] (fun ek i wr => ∃ k vo vc, k ≤ n ∧ i = .int .i64 (k : Nat) ∧ ek = .slice vo k vc ∧ ItemsTo w wr (w.heap.size + 1) n k f t ∧ ExpTo w wr k vo vc f t) (fun _ i _ => n - (intOf i).toNat)
  case atStart => exact ⟨0, _, _, by omega, rfl, rfl, H0.out, E0.out⟩
  case round =>
    obtain ⟨k, vo, vc, hk, rfl, rfl, hit, hex⟩ := hrel
    by_cases hlt : k < n
    · rcases HF.out with h0 | ⟨g1, o1, rfl, hR1⟩
      · omega
      rcases HT.out with h0 | ⟨g2, o2, rfl, hR2⟩
      · omega
      rcases HD.out with h0 | ⟨g3, o3, rfl, hR3⟩
      · omega
      have hc1 := hit.chg.cell (hR1 k hlt) (fun h => h)
      have hc2 := hit.chg.cell (hR2 k hlt) (fun h => h)
      have hc3 := hit.chg.cell (hR3 k hlt) (fun h => h)
      unfold strAt at hc1 hc2
      unfold yesAt at hc3
      have lt1 : g1 < wr.heap.size := World.block_lt_of_cell? wr _ hc1
      have lt2 : g2 < wr.heap.size := World.block_lt_of_cell? wr _ hc2
      have Hit := Lib.hid hit
      have Hex := Lib.hid hex
      clear hit hex hR1 hR2 hR3
      have hx1 : (k : Int) < (n : Int) := by omega
      have hx0 : (0 : Int) ≤ (k : Int) := by omega
      go_upto_region 6 with fail
      go_cut [10] (fun c10 wx => ∃ b, c10 = .pointer (some ⟨b, 0, none⟩) ∧ wx.heap[b]? = some (.cells (item (f k) (t k)) 71 (0, 0)) ∧ Chg Nowhere wr wx ∧ wr.heap.size ≤ b)
      case first =>
        go_region_with (go_at_call 24; refine (entry24x (t k) _).mono ?_; rintro e w' ⟨rfl, rfl⟩)
        all_goals (
          go_wp2_with fail
          go_meet
          (case rel =>
            first
              | exact ⟨_, rfl, heap_at _ _ _ (by simp), (((Chg.refl _ wr).alloc _).alloc _).drew, by omega⟩
              | exact ⟨_, rfl, heap_keep (heap_at _ _ _ rfl) _, (((Chg.refl _ wr).alloc _).alloc _).drew, by omega⟩))
      case rest =>
      obtain ⟨bx, rfl, hb, hcx, hlb⟩ := hcut
      rename World => wx
      have hc3x := hcx.cell hc3 (fun h => h)
      have hitx := Hit.out.keep hcx
      have hexx := Hex.out.keep hcx (fun x hx h => h)
      have hbxn : ¬ InRow vo bx := fun h => by have := (inRow_own2 Hex.out.own bx h).2; omega
      have hbl := heap_lt hb
      have i0 := cell_of_heap hb 0
      have i1 := cell_of_heap hb 1
      have i2 := cell_of_heap hb 2
      have i3 := cell_of_heap hb 3
      have i4 := cell_of_heap hb 4
      have i5 := cell_of_heap hb 5
      have i6 := cell_of_heap hb 6
      have i7 := cell_of_heap hb 7
      have i8 := cell_of_heap hb 8
      have i9 := cell_of_heap hb 9
      simp only [item, List.getElem?_toArray, List.getElem?_cons_succ, List.getElem?_cons_zero] at i0 i1 i2 i3 i4 i5 i6 i7 i8 i9
      have Hitx := Lib.hid hitx
      have Hexx := Lib.hid hexx
      have Hb := Lib.hid (And.intro hb (And.intro hcx hbxn))
      clear hitx hexx hb hcx hbxn hc1 hc2 hc3
      go_wp2_with (at_builtin; go_loud (refine wpList_append_fresh _ rfl (.tmp 36) (.tmp 38) 56 rfl (w.heap.size + 2) 71 ti (.agg item0) 10 128 Tryz.underlying56 HI.out.1 HI.out.2.1 HI.out.2.2.1 HI.out.2.2.2 rfl (by decide) vo k vc (itemsL f t k) rfl (Hexx.out.own.alloc _) (some ⟨wx.heap.size, 0, none⟩) 1 1 (item (f k) (t k)).toList rfl rfl (fun h => by cases h) (fun a ha => cells_new wx (item (f k) (t k)) 71 a ha) (fun u hu => by simp [item] at hu; rcases hu with rfl | rfl | rfl | rfl | rfl | rfl | rfl | rfl | rfl | rfl <;> rfl) (by unfold maxLen; omega) (by omega) (by have := Hitx.out.chg.size; have := heap_lt Hitx.out.r; have := Hitx.out.blk; simp; omega) ?_; intro vo1 vc1 w2 hown2 hch2 hor; have hbw := Hb.out.1; have hbn := Hb.out.2.2; have hb2 := hch2.heap (heap_keep hbw _) hbn; have hit2 := Hitx.out.keepS (((Chg.refl (fun x => InRow vo x) wx).alloc _).trans hch2 (fun _ _ h => h)) (fun x hx hr => by have := (inRow_own2 Hexx.out.own x hr).1; omega); obtain ⟨j0, j1, j2, j3, j4, j5, j6, j7, j8, j9⟩ := item_cells hb2; obtain ⟨v0, v1, v2, v3, v4, v5, v6, v7, v8, v9, m0, m1, m2, m3, m4, m5, m6, m7, m8, m9, fm, lg⟩ := mem_cells hit2 hlt; have HO := Lib.hid (And.intro hown2 hit2); clear hown2 hch2 hor hb2 hit2 hbw hbn))
      go_roundw
      case rel =>
        have hst := HO.out.2.step hlt
        have hc := st10_chg w2 (w.heap.size + 1) (k * 10) (.string (f k)) (.string (t k)) (.slice none 0 0) (.slice none 0 0) (.slice none 0 0) (.int .i32 0) (.int .i32 0) (.int .u8 1) (.int .i32 0) (.int .i32 0)
        have hex2 : ExpTo w w2 (k + 1) vo1 vc1 f t := ⟨HO.out.1⟩
        exact ⟨k + 1, vo1, vc1, by omega, by go_num, by go_num, hst, hex2.keep hc (fun x hx e => by have := (inRow_own2 HO.out.1 x hx).1; omega)⟩
      case measure => simp [intOf]; omega
    · obtain rfl : k = n := by omega
      have hx1 : ¬ (k : Int) < (k : Int) := by omega
      obtain ⟨ge, rfl, hge, htb⟩ := hex.tbl hn1
      have hso := sort31x ge k vc f t L wr HS.out htb hn hn1
      have hr := hit.r
      have Hit := Lib.hid hit
      clear hit hex htb
      go_wp2_with fail
      refine hso.mono ?_
      rintro e1 w1 ⟨rfl, s', ht', hbk, hc1⟩
      have hit1 := Hit.out.keepS hc1 (fun x hx e => by omega)
      have hr1 := hit1.r
      have r0 := cell_of_heap hr1 0
      have r1 := cell_of_heap hr1 1
      have r2 := cell_of_heap hr1 2
      have r3 := cell_of_heap hr1 3
      have r4 := cell_of_heap hr1 4
      have r5 := cell_of_heap hr1 5
      have r6 := cell_of_heap hr1 6
      simp [zent] at r0 r1 r2 r3 r4 r5 r6
      have fz : ∀ j, w1.frozen? ⟨w.heap.size, j, none⟩ = false := fun j => frozen_of_heap hr1 j
      have Hit1 := Lib.hid hit1
      have Ht := Lib.hid ht'
      have Hbk := Lib.hid hbk
      clear hit1 hr1 hr hso hc1 ht' hbk
      go_wp2_with fail
      refine bodyPost_ret (v := .agg (oentx (some ⟨w.heap.size + 1, 0, none⟩) k k (some ⟨ge, 0, none⟩) k vc)) ?_ rfl ⟨_, _, _, _, s', rfl, Items.st Hit1.out _ _ _ _ _ _ _, Ht.out.keep (st7_self (b := w.heap.size) _ _ _ _ _ _ _) (fun e => by omega), Hbk.out, st7_chg Hit1.out.chg (Nat.le_refl _) _ _ _ _ _ _ _⟩
      exact (results_c (p := 6) (ty := 59) (by rfl) _ _ _ w.heap.size _ (by rfl) (load59 (st7_heap Hit1.out.r _ _ _ _ _ _ _) (by rfl))).trans (by rfl)
end Go.Proofs.YtcbmankbjgbjgaaGreatFmt
