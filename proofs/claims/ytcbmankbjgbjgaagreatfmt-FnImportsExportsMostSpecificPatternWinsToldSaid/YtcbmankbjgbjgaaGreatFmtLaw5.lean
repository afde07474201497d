/-
  Proved: the walk of FnImportsExportsMostSpecificPatternWins. No statement of the seat stands here.
-/
import Derived.Test.YtcbmankbjgbjgaaGreatFmtZimx
import Derived.Test.YtcbmankbjgbjgaaGreatFmtHelp5
namespace Go.Proofs.YtcbmankbjgbjgaaGreatFmt
open Go.RowKit Go.ChangeAt
open Go.Extern.Stop Go.Stop Go.Extern
set_option linter.unusedSimpArgs false
set_option linter.unusedVariables false
set_option maxRecDepth 100000
/-- Two rows made since w, their first k cells laid. -/
structure Made2 (w wr : World) (e : TypeId) (n k : Nat) (f g : Nat → Value) : Prop where
  chg : Chg Nowhere w wr
  one : ∃ cur : Array Value, wr.heap[w.heap.size]? = some (.cells cur e (0, 0)) ∧ cur.size = n ∧ ∀ i, i < k → cur[i]? = some (f i)
  two : ∃ cur : Array Value, wr.heap[w.heap.size + 1]? = some (.cells cur e (0, 0)) ∧ cur.size = n ∧ ∀ i, i < k → cur[i]? = some (g i)
theorem Made2.start (w : World) (e : TypeId) (z : Value) (n : Nat) (f g : Nat → Value) : Made2 w ((w.alloc (.cells (madeCells #[z] n) e)).alloc (.cells (madeCells #[z] n) e)) e n 0 f g :=
  ⟨((Chg.refl _ _).alloc _).alloc _, ⟨_, heap_keep (heap_alloc_new w _) _, by rw [size_madeCells], fun i hi => absurd hi (Nat.not_lt_zero i)⟩, ⟨_, heap_at _ _ _ (by simp), by rw [size_madeCells], fun i hi => absurd hi (Nat.not_lt_zero i)⟩⟩
theorem Made2.step {w wr : World} {e : TypeId} {n k : Nat} {f g : Nat → Value} (h : Made2 w wr e n k f g) (hk : k < n) : Made2 w ((wr.setCell ⟨w.heap.size, k, none⟩ (f k)).setCell ⟨w.heap.size + 1, k, none⟩ (g k)) e n (k + 1) f g := by
  obtain ⟨hc, ⟨c1, g1, s1, f1⟩, ⟨c2, g2, s2, f2⟩⟩ := h
  have set : ∀ {cur : Array Value} {q : Nat → Value}, cur.size = n → (∀ i, i < k → cur[i]? = some (q i)) → ∀ i, i < k + 1 → (cur.setIfInBounds k (q k))[i]? = some (q i) := fun {cur q} hs hf i hi => by
    rw [Array.getElem?_setIfInBounds]
    split
    · rename_i e
      subst e
      rw [if_pos (by omega)]
    · exact hf i (by omega)
  have o1 : Chg (fun j => j = w.heap.size) wr (wr.setCell ⟨w.heap.size, k, none⟩ (f k)) := (Chg.refl (fun j => j = w.heap.size) wr).setCell (p := ⟨w.heap.size, k, none⟩) (fun _ => rfl) _
  have o2 : Chg (fun j => j = w.heap.size + 1) (wr.setCell ⟨w.heap.size, k, none⟩ (f k)) ((wr.setCell ⟨w.heap.size, k, none⟩ (f k)).setCell ⟨w.heap.size + 1, k, none⟩ (g k)) := (Chg.refl (fun j => j = w.heap.size + 1) _).setCell (p := ⟨w.heap.size + 1, k, none⟩) (fun _ => rfl) _
  refine ⟨(hc.setCell (p := ⟨w.heap.size, k, none⟩) (fun h => absurd h (Nat.lt_irrefl _)) _).setCell (p := ⟨w.heap.size + 1, k, none⟩) (fun h => absurd h (by show ¬ w.heap.size + 1 < w.heap.size; omega)) _, ?_, ?_⟩
  · exact ⟨_, o2.heap (heap_setCell g1 k _) (fun e => by omega), by simpa using s1, set s1 f1⟩
  · exact ⟨_, heap_setCell (o1.heap g2 (fun e => by omega)) k _, by simpa using s2, set s2 f2⟩
theorem Made2.cells {w wr : World} {e : TypeId} {n k : Nat} {f g : Nat → Value} (h : Made2 w wr e n k f g) (j : Nat) (hj : j < n) : ∃ u v, wr.cell? ⟨w.heap.size, j, none⟩ = some u ∧ wr.cell? ⟨w.heap.size + 1, j, none⟩ = some v ∧ wr.frozen? ⟨w.heap.size, j, none⟩ = false ∧ wr.frozen? ⟨w.heap.size + 1, j, none⟩ = false ∧ w.heap.size + 1 < wr.heap.size := by
  obtain ⟨hc, ⟨c1, g1, s1, f1⟩, ⟨c2, g2, s2, f2⟩⟩ := h
  exact ⟨c1[j], c2[j], by rw [cell_of_heap g1, Array.getElem?_eq_getElem (by omega)], by rw [cell_of_heap g2, Array.getElem?_eq_getElem (by omega)], frozen_of_heap g1 j, frozen_of_heap g2 j, heap_lt g2⟩
theorem Made2.reads {w wr : World} {e : TypeId} {n : Nat} {f g : Nat → Value} (h : Made2 w wr e n n f g) : Reads wr (some ⟨w.heap.size, 0, none⟩) n f ∧ Reads wr (some ⟨w.heap.size + 1, 0, none⟩) n g := by
  obtain ⟨hc, ⟨c1, g1, s1, f1⟩, ⟨c2, g2, s2, f2⟩⟩ := h
  exact ⟨.inr ⟨_, 0, rfl, fun i hi => by rw [cell_of_heap g1, Nat.zero_add]; exact f1 i hi⟩, .inr ⟨_, 0, rfl, fun i hi => by rw [cell_of_heap g2, Nat.zero_add]; exact f2 i hi⟩⟩
/-- The best pattern among the first k. -/
def BestTo (k : Nat) (b : Nat → ByteArray) (q : ByteArray) (x y : Int) : Prop := (x = -1 ∧ y = -1 ∧ ∀ i, i < k → pfx q (b i) = false) ∨ ∃ i : Nat, x = i ∧ y = ((b i).size : Nat) ∧ Win k b q i
theorem BestTo.no {k : Nat} {b : Nat → ByteArray} {q : ByteArray} {x y : Int} (h : BestTo k b q x y) (hp : pfx q (b k) = false) : BestTo (k + 1) b q x y := by
  rcases h with ⟨h1, h2, h3⟩ | ⟨i, h1, h2, h3, h4, h5⟩
  · exact .inl ⟨h1, h2, fun j hj => by
      by_cases e : j = k
      · subst e; exact hp
      · exact h3 j (by omega)⟩
  · exact .inr ⟨i, h1, h2, by omega, h4, fun z hz hpz hne => by
      by_cases e : z = k
      · subst e; rw [hp] at hpz; cases hpz
      · exact h5 z (by omega) hpz hne⟩
theorem BestTo.less {k : Nat} {b : Nat → ByteArray} {q : ByteArray} {x y : Int} (h : BestTo k b q x y) (hs : ¬ y < ((b k).size : Int)) : BestTo (k + 1) b q x y := by
  rcases h with ⟨h1, h2, h3⟩ | ⟨i, h1, h2, h3, h4, h5⟩
  · omega
  · exact .inr ⟨i, h1, h2, by omega, h4, fun z hz hpz hne => by
      by_cases e : z = k
      · subst e; omega
      · exact h5 z (by omega) hpz hne⟩
theorem BestTo.more {k : Nat} {b : Nat → ByteArray} {q : ByteArray} {x y : Int} (h : BestTo k b q x y) (hp : pfx q (b k) = true) (hs : y < ((b k).size : Int)) : BestTo (k + 1) b q k ((b k).size : Nat) := by
  refine .inr ⟨k, rfl, rfl, by omega, hp, fun z hz hpz hne => ?_⟩
  rcases h with ⟨h1, h2, h3⟩ | ⟨i, h1, h2, h3, h4, h5⟩
  · rw [h3 z (by omega)] at hpz; cases hpz
  · by_cases e : z = i
    · subst e; omega
    · have := h5 z (by omega) hpz e; omega
theorem size_str (x : ByteArray) : (ByteArray.mk #[46, 47] ++ x ++ ⟨#[42]⟩) = keyP x := rfl
theorem pat_str (x : ByteArray) : (ByteArray.mk #[46, 47] ++ x ++ ⟨#[47, 42]⟩) = patS x := ByteArray.append_assoc
theorem exp_keyP (x : ByteArray) : Exp (keyP x) := by
  refine exp_star (keyP x) (x.size + 2) (by rw [keyP_size]; omega) ?_
  have := bt_right (dotted x) ⟨#[42]⟩ 0 (by decide)
  rw [dotted_size, Nat.add_zero] at this
  exact this.trans (by decide)
set_option maxHeartbeats 32000000 in
theorem law5 (F : Interp) (q : ByteArray) (a b : Option Addr) (n c m d : Nat) (f g : Nat → ByteArray) (bi : Bool) (w : World) (hA : F.answers w.tape) (hF : Reads w a n (strAt f)) (hG : Reads w b m (strAt g)) (na : a = none → n = 0 ∧ c = 0) (nb : b = none → m = 0 ∧ d = 0) :
    Calls Tryz.prog 5 #[.string q, .slice a n c, .slice b m d, .bool bi] w (TrueOut w) := by
  have HA := Lib.hid hA
  have HF := Lib.hid hF
  have HG := Lib.hid hG
  have Na := Lib.hid na
  have Nb := Lib.hid nb
  clear hA hF hG na nb
  go_enter Tryz.func5, Tryz.ntmps5
  go_wp2_with fail
  refine (zb18 q (.bool bi) a b n c m d f g w HF.out HG.out).mono ?_
  rintro e1 w1 ⟨r, rfl, rfl, hr⟩
  cases r
  · clear hr
    go_wp2_with fail
    go_ret
    exact ⟨rfl, Chg.refl _ _⟩
  obtain ⟨hs, hf, hg⟩ := hr rfl
  clear hr
  have Hf := Lib.hid hf
  have Hg := Lib.hid hg
  have hn := hf.few
  have hm := hg.few
  clear hf hg
  go_wp2_with fail
  refine (sum13 a n c f w HF.out Hf.out).mono ?_
  rintro e2 w2 ⟨y1, hy1, hy2, rfl, rfl⟩
  by_cases ht1 : 1048576 < y1
  · go_wp2_with fail
    go_ret
    exact ⟨rfl, Chg.refl _ _⟩
  go_wp2_with fail
  refine (sum13 b m d g w HG.out Hg.out).mono ?_
  rintro e3 w3 ⟨y2, hy3, hy4, rfl, rfl⟩
  by_cases ht2 : 1048576 < y2
  · go_wp2_with fail
    go_ret
    exact ⟨rfl, Chg.refl _ _⟩
  go_wp2_with fail
  refine (sum13 a n c f w HF.out Hf.out).mono ?_
  rintro e2 w2 ⟨y3, hy5, hy6, rfl, rfl⟩
  go_wp2_with fail
  refine (sum13 b m d g w HG.out Hg.out).mono ?_
  rintro e3 w3 ⟨y4, hy7, hy8, rfl, rfl⟩
  by_cases ht3 : 1048576 < (q.size : Int) + 2 * y3 + 2 * y4
  · go_wp2_with fail
    go_ret
    exact ⟨rfl, Chg.refl _ _⟩
  by_cases hnm : n = m
  case neg =>
    have e0 : ((n : Int) != (m : Int)) = true := by simp; omega
    clear hnm
    go_wp2_with fail
    go_ret
    exact ⟨rfl, Chg.refl _ _⟩
  subst hnm
  go_wp2_with fail
  refine (hasSep7 q w hs).mono ?_
  rintro e4 w4 ⟨r4, rfl, rfl, hsq⟩
  cases r4
  case true =>
    clear hsq
    go_wp2_with fail
    go_ret
    exact ⟨rfl, Chg.refl _ _⟩
  have Hq := Lib.hid (hsq rfl)
  clear hsq
  go_wp2_with fail
  clear ht1 ht2 ht3 hy1 hy2 hy3 hy4 hy5 hy6 hy7 hy8
  go_loop [9, 10] (fun i _ => ∃ k : Nat, k ≤ n ∧ i = .int .i64 k ∧ ∀ j, j < k → (∀ x, x < (f j).size → bt (f j) x ≠ 42) ∧ Dir (g j)) (fun i _ => n - (intOf i).toNat)
  case atStart => exact ⟨0, by omega, rfl, fun j hj => by omega⟩
  case round =>
    obtain ⟨k, hk, rfl, hall⟩ := hrel
    have Hall := Lib.hid hall
    clear hall
    by_cases hlt : k < n
    · rcases HF.out with h1 | ⟨g1, o1, rfl, hR1⟩
      · omega
      rcases HG.out with h1 | ⟨g2, o2, rfl, hR2⟩
      · omega
      have hc1 := hR1 k hlt
      have hc2 := hR2 k hlt
      have hz1 := Hf.out.short k hlt
      have hz2 := Hg.out.short k hlt
      clear hR1 hR2
      unfold strAt at hc1 hc2
      have hx : (k : Int) < (n : Int) := by omega
      have hx1 : (0 : Int) ≤ (k : Int) := by omega
      go_wp2_with fail
      refine (star19 (f k) w hz1).mono ?_
      rintro e5 w5 ⟨r5, rfl, rfl, h1, h2⟩
      cases r5
      case true =>
        clear h1 h2
        go_wp2_with fail
        go_ret
        exact ⟨rfl, Chg.refl _ _⟩
      have Hne := Lib.hid (h2 rfl)
      clear h1 h2
      by_cases hg0 : g k = ⟨#[]⟩
      · have e0 := lit_eq hg0
        clear hg0
        go_wp2_with fail
        go_ret
        exact ⟨rfl, Chg.refl _ _⟩
      have e0 := lit_ne hg0
      have Hg0 := Lib.hid hg0
      clear hg0
      go_wp2_with fail
      refine (hasSep7 (g k) w hz2).mono ?_
      rintro e6 w6 ⟨r6, rfl, rfl, h1⟩
      cases r6
      case true =>
        clear h1
        go_wp2_with fail
        go_ret
        exact ⟨rfl, Chg.refl _ _⟩
      have Hseg := Lib.hid (h1 rfl)
      clear h1
      go_wp2_with fail
      refine (star19 (g k) w hz2).mono ?_
      rintro e7 w7 ⟨r7, rfl, rfl, h1, h2⟩
      cases r7
      case true =>
        clear h1 h2
        go_wp2_with fail
        go_ret
        exact ⟨rfl, Chg.refl _ _⟩
      have Hns := Lib.hid (h2 rfl)
      clear h1 h2
      go_wp2_with fail
      refine (bad11 (g k) w).mono ?_
      rintro e8 w8 ⟨r8, rfl, rfl, h1, h2⟩
      cases r8
      case true =>
        clear h1 h2
        go_wp2_with fail
        go_ret
        exact ⟨rfl, Chg.refl _ _⟩
      have Hdir : Hid (Dir (g k)) := Lib.hid ⟨Hseg.out, Hg0.out, h2 rfl, Hns.out, hz2⟩
      clear h1 h2
      go_wp2_with fail
      go_round
      case rel => exact ⟨k + 1, by omega, by go_num, fun j hj => by
        by_cases e : j = k
        · subst e; exact ⟨Hne.out, Hdir.out⟩
        · exact Hall.out j (by omega)⟩
      case measure => simp [intOf]; omega
    · have hx : ¬ (k : Int) < (n : Int) := by omega
      obtain rfl : k = n := by omega
      clear hlt hk
      go_wp2_with fail
      refine (clone16 a k c f w HF.out Na.out hn).mono ?_
      rintro e5 w5 ⟨a5, c5, rfl, hR5, hc5⟩
      have HR5 := Lib.hid hR5
      have Hc5 := Lib.hid hc5
      clear hR5 hc5
      go_wp2_with fail
      refine (clone16 b k d g w5 (HG.out.kept Hc5.out (fun _ _ _ h => h)) Nb.out hn).mono ?_
      rintro e6 w6 ⟨a6, c6, rfl, hR6, hc6⟩
      have HR6 := Lib.hid hR6
      have HR5b := Lib.hid (HR5.out.kept hc6 (fun _ _ _ h => h))
      have Hc6 := Lib.hid (Hc5.out.trans hc6 (fun _ _ h => h))
      clear hR6 hc6
      obtain ⟨i0, hi, hz0, hz1, hz2⟩ := info_parts info9
      have hmk := fun W => run_make_one (P := Tryz.prog) 24 9 i0 _ Tryz.underlying24 hi hz0 hz1 rfl 16 hz2 k (by omega) (by omega) W
      clear hi hz0 hz1 hz2
      go_wp2_with fail
      clear hmk
      go_loopw [13] (fun i wr => ∃ x : Nat, x ≤ k ∧ i = .int .i64 x ∧ Made2 w6 wr 9 k x (strAt fun j => keyP (f j)) (strAt fun j => patS (g j))) (fun i _ => k - (intOf i).toNat)
      case atStart => exact ⟨0, by omega, rfl, Made2.start w6 9 _ k _ _⟩
      case round =>
        obtain ⟨x, hx, rfl, hmd⟩ := hrel
        by_cases hlt2 : x < k
        · rcases HR5b.out with h0 | ⟨g1, o1, hx5, hR1⟩
          · omega
          subst hx5
          rcases HR6.out with h0 | ⟨g2, o2, hx6, hR2⟩
          · omega
          subst hx6
          have l1 : g1 < w6.heap.size := World.block_lt_of_cell? w6 _ (hR1 x hlt2)
          have l2 : g2 < w6.heap.size := World.block_lt_of_cell? w6 _ (hR2 x hlt2)
          have hc1 := hmd.chg.cell (hR1 x hlt2) (fun h => h)
          have hc2 := hmd.chg.cell (hR2 x hlt2) (fun h => h)
          obtain ⟨u, v, hu, hv, hfu, hfv, hl⟩ := hmd.cells x hlt2
          have Hm := Lib.hid hmd
          have hz1 := Hf.out.short x hlt2
          have hz2 := Hg.out.short x hlt2
          clear hR1 hR2 hmd
          unfold strAt at hc1 hc2
          have hx1 : (x : Int) < (k : Int) := by omega
          have hx0 : (0 : Int) ≤ (x : Int) := by omega
          go_wp2_with fail
          rw [size_str, pat_str]
          go_roundw
          case rel => exact ⟨x + 1, by omega, by go_num, Hm.out.step hlt2⟩
          case measure => simp [intOf]; omega
        · obtain rfl : x = k := by omega
          have hx2 : ¬ (x : Int) < (x : Int) := by omega
          obtain ⟨hR11, hR12⟩ := hmd.reads
          have HR11 := Lib.hid hR11
          have HR12 := Lib.hid hR12
          have Hc7 := Lib.hid (Hc6.out.trans hmd.chg (fun _ _ h => h))
          have HR5c := Lib.hid (HR5b.out.kept hmd.chg (fun _ _ _ h => h))
          have HR6c := Lib.hid (HR6.out.kept hmd.chg (fun _ _ _ h => h))
          clear hmd hR11 hR12
          rename World => w7
          go_wp2_with fail
          go_loopw [14, 15, 16] (fun bx by' i wr => ∃ z : Nat, ∃ y1 y2 : Int, z ≤ x ∧ i = .int .i64 z ∧ bx = .int .i64 y1 ∧ by' = .int .i64 y2 ∧ BestTo z f q y1 y2 ∧ Chg Nowhere w7 wr) (fun _ _ i _ => x - (intOf i).toNat)
          case atStart => exact ⟨0, -1, -1, by omega, rfl, rfl, rfl, .inl ⟨rfl, rfl, fun i hi => by omega⟩, Chg.refl _ _⟩
          case round =>
            obtain ⟨z, y1, y2, hz, rfl, rfl, rfl, hbest, hch⟩ := hrel
            have Hbest := Lib.hid hbest
            have Hch := Lib.hid hch
            clear hbest hch
            by_cases hlt3 : z < x
            · rcases HR5c.out with h0 | ⟨g1, o1, hx5, hR1⟩
              · omega
              subst hx5
              have hc1 := Hch.out.cell (hR1 z hlt3) (fun h => h)
              have hz1 := Hf.out.short z hlt3
              clear hR1
              unfold strAt at hc1
              have hx3 : (z : Int) < (x : Int) := by omega
              have hx4 : (0 : Int) ≤ (z : Int) := by omega
              go_wp2_with fail
              refine (pre20x q (f z) _ hs hz1).mono ?_
              rintro e8 w8 ⟨rfl, hc8⟩
              rw [show Lib.hasPrefix q.data.toList (f z).data.toList = pfx q (f z) from rfl]
              have hc9 := (hc8 : Chg Nowhere _ _).cell hc1 (fun h => h)
              have Hc8 := Lib.hid (Hch.out.trans hc8 (fun _ _ h => h))
              clear hc8 hc1
              cases hp : pfx q (f z)
              · have Hp := Lib.hid hp
                clear hp
                go_wp2_with fail
                go_roundw
                case rel => exact ⟨z + 1, y1, y2, by omega, by go_num, rfl, rfl, Hbest.out.no Hp.out, Hc8.out⟩
                case measure => simp [intOf]; omega
              · have Hp := Lib.hid hp
                clear hp
                by_cases hlen : y2 < ((f z).size : Int)
                · go_wp2_with fail
                  go_roundw
                  case rel => exact ⟨z + 1, z, ((f z).size : Nat), by omega, by go_num, rfl, rfl, Hbest.out.more Hp.out hlen, Hc8.out⟩
                  case measure => simp [intOf]; omega
                · go_wp2_with fail
                  go_roundw
                  case rel => exact ⟨z + 1, y1, y2, by omega, by go_num, rfl, rfl, Hbest.out.less (by omega), Hc8.out⟩
                  case measure => simp [intOf]; omega
            · obtain rfl : z = x := by omega
              have hx3 : ¬ (z : Int) < (z : Int) := by omega
              rename World => wr
              have HR11r := Lib.hid (HR11.out.kept Hch.out (fun _ _ _ h => h))
              have HR12r := Lib.hid (HR12.out.kept Hch.out (fun _ _ _ h => h))
              have HR6r := Lib.hid (HR6c.out.kept Hch.out (fun _ _ _ h => h))
              have Hcr := Lib.hid (Hc7.out.trans Hch.out (fun _ _ h => h))
              go_wp2_with fail
              refine (flags9x (some ⟨w6.heap.size, 0, none⟩) z z (fun j => keyP (f j)) wr HR11r.out hn (fun i hi => by rw [keyP_size]; have := Hf.out.short i hi; omega) (fun i hi => exp_keyP _)).mono ?_
              rintro e8 w8 ⟨a8, c8, rfl, hR8, hc8⟩
              have HR8 := Lib.hid hR8
              have Hc8 := Lib.hid (Hcr.out.trans hc8 (fun _ _ h => h))
              have HR11d := Lib.hid (HR11r.out.kept hc8 (fun _ _ _ h => h))
              have HR12d := Lib.hid (HR12r.out.kept hc8 (fun _ _ _ h => h))
              have HR6d := Lib.hid (HR6r.out.kept hc8 (fun _ _ _ h => h))
              clear hR8 hc8
              go_wp2_with fail
              refine (zim17x F (some ⟨w6.heap.size, 0, none⟩) (some ⟨w6.heap.size + 1, 0, none⟩) (some a8) z z z c8 f g (fun j => keyP (f j)) (fun j => patS (g j)) q (dotted q) bi w8 (by rw [Hc8.out.tape]; exact HA.out) rfl (fun i hi => (Hall.out i hi).1) (fun i hi => Hf.out.short i hi) (fun i hi => (Hall.out i hi).2) (fun _ _ => rfl) (fun _ _ => rfl) HR11d.out HR12d.out HR8.out hn Hq.out hs).mono ?_
              rintro e9 w9 ⟨⟨r, st, hh, rfl⟩, hc9⟩
              have HH := Lib.hid hh
              have Hc9 := Lib.hid (Hc8.out.trans hc9 (fun _ _ h => h))
              have HR6e := Lib.hid (HR6d.out.kept hc9 (fun _ _ _ h => h))
              clear hh hc9
              have hse : ∀ x : ByteArray, (x.toList == x.toList) = true := fun x => by simp
              rcases Hbest.out with ⟨rfl, rfl, h3⟩ | ⟨i, rfl, rfl, h3⟩
              · have hmiss : r = ⟨#[]⟩ ∧ st = 2 := by
                  rcases HH.out with ⟨j, hj, _⟩ | ⟨_, h1, h2⟩
                  · have := h3 j hj.1; rw [hj.2.1] at this; cases this
                  · exact ⟨h1, h2⟩
                obtain ⟨rfl, rfl⟩ := hmiss
                clear h3 hse
                go_wp2_with fail
                go_ret
                exact ⟨rfl, Hc9.out⟩
              · have hhit : r = pkgD (g i) ++ q.extract (f i).size q.size ∧ st = 4 := by
                  rcases HH.out with ⟨j, hj, h1, h2⟩ | ⟨h1, _⟩
                  · obtain rfl := win_uniq h3 hj
                    exact ⟨h1, h2⟩
                  · have := h1 i h3.1; rw [h3.2.1] at this; cases this
                obtain ⟨hr, rfl⟩ := hhit
                have hi := h3.1
                have hle := pfx_le h3.2.1
                have e1 : (r.toList == (⟨#[47, 112, 107, 103, 47]⟩ ++ g i ++ ⟨#[47]⟩ ++ q.extract (f i).size q.size : ByteArray).toList) = true := by
                  rw [hr]; exact hse _
                clear h3 hr hse
                rcases HR6e.out with h0 | ⟨g2, o2, hx6, hR2⟩
                · omega
                subst hx6
                have hc2 := hR2 i hi
                clear hR2
                unfold strAt at hc2
                have x1 : (i : Int) < (z : Int) := by omega
                have x2 : (0 : Int) ≤ (i : Int) := by omega
                have x3 : ¬ (i : Int) < 0 := by omega
                have x4 : ((f i).size : Int) ≤ (q.size : Int) := by omega
                have x5 : (0 : Int) ≤ ((f i).size : Int) := by omega
                go_wp2_with fail
                have hz1 := Hf.out.short i hi
                have hz2 := Hg.out.short i hi
                have hz3 : (q.extract (f i).size q.size).size ≤ 1048576 := by rw [ByteArray.size_extract]; omega
                go_quiet (fail)
                all_goals (
                  go_wp2_with fail
                  go_ret
                  exact ⟨rfl, by first | exact Hc9.out.drew | exact Hc9.out.drewN _ | exact Hc9.out⟩)
end Go.Proofs.YtcbmankbjgbjgaaGreatFmt
