/-
  Proved: contract of ZZprintMQBinaryOfNumbers. No statement of the seat stands here.
-/
import Derived.Test.YtogkpfdnfjlflaaGreatFmtBin
namespace Go.Proofs.YtogkpfdnfjlflaaGreatFmt
open Go.RowKit Go.ChangeAt
set_option linter.unusedSimpArgs false
set_option linter.unusedVariables false
theorem info46 : (Tryz.prog.info? 46).map (fun i => (i.zero, i.size, i.bytes)) = some (some (.agg #[.int .i32 0, .nilIface]), 2, 24) := by kernel_rfl
theorem make46 (n : Nat) (hn : n ≤ 1048576) (W : World) : (Instr.makeSlice 76 (.int .i64 0) (.int .i64 n)).run Tryz.prog W = .ok (.slice (some ⟨W.heap.size, 0, none⟩) 0 n) (W.alloc (.cells (madeCells #[.int .i32 0, .nilIface] (n * 2)) 46)) := by
  obtain ⟨i0, hi, hz0, hz1, hz2⟩ := info_parts info46
  have h := run_make (P := Tryz.prog) W 76 46 i0 _ Tryz.underlying76 hi hz0 .i64 .i64 0 n (by omega) (by omega) (by rw [hz2]; omega) (by omega)
  rw [h, hz1]
  simp [Value.cells]
def qCells (g1 : Nat) : List Value := [.int .i32 0, .iface 30 (.pointer (some ⟨g1, 0, none⟩))]
/-- The first k terms are laid: their row xs at vo, their parts elsewhere. -/
structure Built (w wr : World) (k : Nat) (f : Nat → ByteArray) (vo : Option Addr) (vc : Nat) (xs : List Value) : Prop where
  own : wr.ownsRow w.heap.size 46 2 (.slice vo k vc) k xs
  each : ∀ i, i < k → ∃ g : Nat × Nat, xs[i * 2]? = some (.int .i32 0) ∧ xs[i * 2 + 1]? = some (.iface 30 (.pointer (some ⟨g.1, 0, none⟩))) ∧ wr.heap[g.1]? = some (.cells #[.slice (some ⟨g.2, 0, none⟩) 1 1] 42 (0, 0)) ∧
    wr.heap[g.2]? = some (.cells (tokCells (f i)) 39 (0, 0)) ∧ ¬ InRow vo g.1 ∧ ¬ InRow vo g.2
  place : ∃ g, vo = some ⟨g, 0, none⟩
  chg : Chg Nowhere w wr
theorem Built.start (w : World) (f : Nat → ByteArray) (n : Nat) (hn : n ≤ 1048576) : Built w (w.alloc (.cells (madeCells #[.int .i32 0, .nilIface] (n * 2)) 46)) 0 f (some ⟨w.heap.size, 0, none⟩) n [] :=
  ⟨World.ownsRow_made w _ n (Nat.le_refl _) (by unfold maxLen; omega) (by rw [size_madeCells]), fun i hi => by omega, ⟨_, rfl⟩, (Chg.refl _ w).alloc _⟩
theorem Built.step {w wr w' : World} {k : Nat} {f : Nat → ByteArray} {vo vo' : Option Addr} {vc vc' : Nat} {xs : List Value} (h : Built w wr k f vo vc xs)
    (hown : w'.ownsRow w.heap.size 46 2 (.slice vo' (k + 1) vc') (k + 1) (xs ++ qCells (wr.heap.size + 1)))
    (hc : Chg (InRow vo) (((wr.alloc (.cells (tokCells (f k)) 39)).alloc (.cells #[.slice (some ⟨wr.heap.size, 0, none⟩) 1 1] 42)).alloc (.cells #[.int .i32 0, .iface 30 (.pointer (some ⟨wr.heap.size + 1, 0, none⟩))] 46)) w')
    (hf : vo' = vo ∨ vo' = some ⟨wr.heap.size + 1 + 1 + 1, 0, none⟩) : Built w w' (k + 1) f vo' vc' (xs ++ qCells (wr.heap.size + 1)) := by
  have hlen : xs.length = k * 2 := by simpa using h.own.1
  have hin : ∀ j, InRow vo j → w.heap.size ≤ j ∧ j < wr.heap.size := by
    rintro j ⟨x, rfl, rfl⟩
    rcases ownsRow_addr h.own with ⟨h1, _⟩ | ⟨g, h1, h2, h3⟩
    · cases h1
    · injection h1 with h1
      subst h1
      exact ⟨h2, h3⟩
  have hnew : ∀ j, ¬ InRow vo j → j < wr.heap.size + 2 → ¬ InRow vo' j := by
    intro j h1 h2 h3
    rcases hf with rfl | rfl
    · exact h1 h3
    · obtain ⟨x, hx, rfl⟩ := h3
      injection hx with hx
      subst hx
      simp at h2
      omega
  refine ⟨hown, fun i hi => ?_, ?_, ?_⟩
  · by_cases hik : i < k
    · obtain ⟨g, h1, h2, h3, h4, h5, h6⟩ := h.each i hik
      have l3 := heap_lt h3
      have l4 := heap_lt h4
      refine ⟨g, ?_, ?_, ?_, ?_, hnew _ h5 (by omega), hnew _ h6 (by omega)⟩
      · rw [List.getElem?_append_left (by omega)]; exact h1
      · rw [List.getElem?_append_left (by omega)]; exact h2
      · exact hc.heap (heap_alloc_keep (heap_alloc_keep (heap_alloc_keep h3 _) _) _) h5
      · exact hc.heap (heap_alloc_keep (heap_alloc_keep (heap_alloc_keep h4 _) _) _) h6
    · obtain rfl : i = k := by omega
      have n1 : ¬ InRow vo (wr.heap.size + 1) := fun hh => by have := (hin _ hh).2; omega
      have n2 : ¬ InRow vo wr.heap.size := fun hh => by have := (hin _ hh).2; omega
      refine ⟨(wr.heap.size + 1, wr.heap.size), ?_, ?_, ?_, ?_, hnew _ n1 (by omega), hnew _ n2 (by omega)⟩
      · rw [List.getElem?_append_right (by omega), show i * 2 - xs.length = 0 by omega]; rfl
      · rw [List.getElem?_append_right (by omega), show i * 2 + 1 - xs.length = 1 by omega]; rfl
      · exact hc.heap (heap_alloc_keep (heap_alloc_at _ _ _ (by simp)) _) n1
      · exact hc.heap (heap_alloc_keep (heap_alloc_keep (heap_alloc_at wr _ _ rfl) _) _) n2
  · rcases hf with rfl | rfl
    · exact h.place
    · exact ⟨_, rfl⟩
  · exact (((h.chg.alloc _).alloc _).alloc _).trans hc (fun j hj hs => absurd (hin j hs).1 (by omega))
theorem Built.terms {w wr : World} {n : Nat} {f : Nat → ByteArray} {gt vc : Nat} {xs : List Value} (h : Built w wr n f (some ⟨gt, 0, none⟩) vc xs) (p q : Obj) :
    ∃ g, TermsAt (wr.heap.size + 2) wr.heap.size gt n g f ((wr.alloc p).alloc q) := by
  have hgt : gt < wr.heap.size := by
    rcases ownsRow_addr h.own with ⟨h1, _⟩ | ⟨g, h1, h2, h3⟩
    · cases h1
    · injection h1 with h1
      injection h1 with h1
      omega
  have hcl : ∀ j v, xs[j]? = some v → ((wr.alloc p).alloc q).cell? ⟨gt, j, none⟩ = some v := by
    intro j v hv
    have h1 := h.own.cells (g := gt) rfl j v hv
    rw [add_cell] at h1
    simp only [Nat.zero_add] at h1
    have hch : Chg Nowhere wr ((wr.alloc p).alloc q) := ((Chg.refl _ _).alloc _).alloc _
    exact hch.cell h1 (fun h => h)
  refine ⟨fun i => if hi : i < n then Classical.choose (h.each i hi) else (0, 0), ⟨?_, ?_, ?_, by omega, by omega⟩⟩
  · intro i hi
    exact hcl _ _ (Classical.choose_spec (h.each i hi)).1
  · intro i hi
    simp only [hi, dif_pos]
    exact hcl _ _ (Classical.choose_spec (h.each i hi)).2.1
  · intro i hi
    simp only [hi, dif_pos]
    obtain ⟨_, _, h3, h4, _, _⟩ := Classical.choose_spec (h.each i hi)
    have l3 := heap_lt h3
    have l4 := heap_lt h4
    exact ⟨heap_alloc_keep (heap_alloc_keep h3 _) _, heap_alloc_keep (heap_alloc_keep h4 _) _, by omega, by omega, by omega, by omega⟩
theorem news3 (wr : World) (T M : Obj) (g1 : Nat) : ∀ a, (some ⟨wr.heap.size + 1 + 1, 0, none⟩ : Option Addr) = some a → ∀ j u, (qCells g1)[j]? = some u →
    (((wr.alloc T).alloc M).alloc (.cells #[.int .i32 0, .iface 30 (.pointer (some ⟨g1, 0, none⟩))] 46)).cell? (a.add j) = some u := by
  intro a ha j u hu
  exact cells_new ((wr.alloc T).alloc M) #[.int .i32 0, .iface 30 (.pointer (some ⟨g1, 0, none⟩))] 46 a (by simpa using ha) j u hu
theorem one3 (g1 : Nat) : ∀ u ∈ qCells g1, u.oneCell' = true := by
  intro u hu
  simp [qCells] at hu
  rcases hu with rfl | rfl <;> rfl
set_option maxRecDepth 100000 in
set_option maxHeartbeats 4000000 in
theorem zbin (o m fl : Bool) (a : Option Addr) (n c : Nat) (f : Nat → ByteArray) (w : World) (hR : Reads w a n fun i => .string (f i)) (hb : n + sumTo f n ≤ 1048576) :
    Calls Tryz.prog 10 #[.slice a n c, .bool o, .bool m, .bool fl] w (StrOut (binText o m fl f n) w) := by
  have hmk := make46 n (by omega)
  have HR := Lib.hid hR
  clear hR
  go_enter Tryz.func10, Tryz.ntmps10
  go_wp2_with fail
  clear hmk
  go_loopw [9, 20] (fun s i wr => ∃ k : Nat, ∃ vo vc xs, k ≤ n ∧ i = .int .i64 k ∧ s = .slice vo k vc ∧ Built w wr k f vo vc xs) (fun _ i _ => n - (intOf i).toNat)
  case atStart => exact ⟨0, _, _, [], by omega, rfl, rfl, Built.start w f n (by omega)⟩
  case round =>
    obtain ⟨k, vo, vc, xs, hk, rfl, rfl, hbl⟩ := hrel
    by_cases hlt : k < n
    · rcases HR.out with h0 | ⟨g, o, rfl, hR1⟩
      · omega
      have hc := hbl.chg.cell (hR1 k hlt) (fun h => h)
      clear hR1
      have Hbl := Lib.hid hbl
      clear hbl
      have hx1 : (k : Int) < (n : Int) := by omega
      have hx0 : (0 : Int) ≤ (k : Int) := by omega
      obtain ⟨i0, hi, hz0, hz1, hz2⟩ := info_parts info46
      have hsz := Hbl.out.chg.size
      go_wp2_with (at_builtin; go_loud (refine wpList_append_fresh _ rfl (.tmp 24) (.tmp 32) 76 rfl w.heap.size 46 i0 _ 2 24 Tryz.underlying76 hi hz0 hz1 hz2 rfl (by decide) vo k vc xs rfl (((Hbl.out.own.alloc _).alloc _).alloc _) (some ⟨wr.heap.size + 1 + 1, 0, none⟩) 1 1 (qCells (wr.heap.size + 1)) rfl rfl (by simp) (news3 wr _ _ _) (one3 _) (by unfold maxLen; omega) (by omega) (by simp; omega) ?_; intro vo' vc' w1 hown1 hg1 hf1; have Hs := Lib.hid (Hbl.out.step hown1 hg1 (by simpa using hf1)); clear hown1 hg1 hf1))
      go_roundw
      case rel => exact ⟨k + 1, vo', vc', _, by omega, by go_num, rfl, Hs.out⟩
      case measure => simp [intOf]; omega
    · obtain rfl : k = n := by omega
      obtain ⟨gt, rfl⟩ := hbl.place
      have Hbl := Lib.hid hbl
      clear hbl
      rcases Bool.eq_false_or_eq_true o with rfl | rfl <;> rcases Bool.eq_false_or_eq_true fl with rfl | rfl
      · go_wp2_with (refine wpList_store_new rfl 70 (.tmp 14) (.tmp 39) rfl _ _ rfl _ rfl (by simp) rfl 43 size70 rfl rfl (by kernel_rfl) ?_)
        have hc : Chg Nowhere w ((wr.alloc (.cells (pc m (.slice none 0 0)) 70)).alloc (.cells #[.int .u8 1, .slice (some ⟨gt, 0, none⟩) k vc] 80)) := ((Hbl.out.chg.alloc _).alloc _)
        obtain ⟨g, hT⟩ := Hbl.out.terms (.cells (pc m (.slice none 0 0)) 70) (.cells #[.int .u8 1, .slice (some ⟨gt, 0, none⟩) k vc] 80)
        have h0 : ((wr.alloc (.cells (pc m (.slice none 0 0)) 70)).alloc (.cells #[.int .u8 1, .slice (some ⟨gt, 0, none⟩) k vc] 80)).heap[wr.heap.size]? = some (.cells (pc m (.slice none 0 0)) 70) := heap_alloc_keep (heap_alloc_at wr _ _ rfl) _
        have h8 : ((wr.alloc (.cells (pc m (.slice none 0 0)) 70)).alloc (.cells #[.int .u8 1, .slice (some ⟨gt, 0, none⟩) k vc] 80)).heap[wr.heap.size + 1]? = some (.cells #[.int .u8 1, .slice (some ⟨gt, 0, none⟩) k vc] 80) := heap_alloc_at _ _ _ (by simp)
        have hs : ((wr.alloc (.cells (pc m (.slice none 0 0)) 70)).alloc (.cells #[.int .u8 1, .slice (some ⟨gt, 0, none⟩) k vc] 80)).heap.size = wr.heap.size + 2 := by simp
        unfold pc at hc hT h0 h8 hs
        generalize hw5 : World.alloc _ _ = w5 at hc hT h0 h8 hs ⊢
        clear hw5
        have hp : Pr (wr.heap.size + 2) wr.heap.size m none [] w5 := Pr.fresh _ _ m w5 (by omega) (by omega) h0
        refine (mq_bin true m true (wr.heap.size + 2) wr.heap.size (wr.heap.size + 1) gt k vc g f [] w5 none hp hT h8 (by omega) (by omega) (by simp) hb).mono ?_
        rintro e w6 ⟨rfl, vo6, hp6, hw6⟩
        obtain ⟨vc6, hr6, ho6⟩ := hp6.row
        have hcc := cell_of_heap hr6 15
        simp [pc] at hcc
        have hst := Pr.str (m := m) (b := 0) ho6
        have hwz := Hbl.out.chg.size
        have hch : Chg Nowhere w w6 := hc.trans hw6.chg (by
          intro j hj hs
          rcases hs with h | ⟨x, h, _⟩
          · omega
          · cases h)
        have hbs := hp6.lt_size
        simp only [List.nil_append] at hst hcc
        clear h0 h8 hT hp hp6 hw6 hr6 ho6 hc
        go_wp2_with fail
        go_ret
        exact ⟨rfl, hch⟩
      · go_wp2_with (refine wpList_store_new rfl 70 (.tmp 14) (.tmp 39) rfl _ _ rfl _ rfl (by simp) rfl 43 size70 rfl rfl (by kernel_rfl) ?_)
        have hc : Chg Nowhere w ((wr.alloc (.cells (pc m (.slice none 0 0)) 70)).alloc (.cells #[.int .u8 1, .slice (some ⟨gt, 0, none⟩) k vc] 80)) := ((Hbl.out.chg.alloc _).alloc _)
        obtain ⟨g, hT⟩ := Hbl.out.terms (.cells (pc m (.slice none 0 0)) 70) (.cells #[.int .u8 1, .slice (some ⟨gt, 0, none⟩) k vc] 80)
        have h0 : ((wr.alloc (.cells (pc m (.slice none 0 0)) 70)).alloc (.cells #[.int .u8 1, .slice (some ⟨gt, 0, none⟩) k vc] 80)).heap[wr.heap.size]? = some (.cells (pc m (.slice none 0 0)) 70) := heap_alloc_keep (heap_alloc_at wr _ _ rfl) _
        have h8 : ((wr.alloc (.cells (pc m (.slice none 0 0)) 70)).alloc (.cells #[.int .u8 1, .slice (some ⟨gt, 0, none⟩) k vc] 80)).heap[wr.heap.size + 1]? = some (.cells #[.int .u8 1, .slice (some ⟨gt, 0, none⟩) k vc] 80) := heap_alloc_at _ _ _ (by simp)
        have hs : ((wr.alloc (.cells (pc m (.slice none 0 0)) 70)).alloc (.cells #[.int .u8 1, .slice (some ⟨gt, 0, none⟩) k vc] 80)).heap.size = wr.heap.size + 2 := by simp
        unfold pc at hc hT h0 h8 hs
        generalize hw5 : World.alloc _ _ = w5 at hc hT h0 h8 hs ⊢
        clear hw5
        have hp : Pr (wr.heap.size + 2) wr.heap.size m none [] w5 := Pr.fresh _ _ m w5 (by omega) (by omega) h0
        refine (mq_bin true m false (wr.heap.size + 2) wr.heap.size (wr.heap.size + 1) gt k vc g f [] w5 none hp hT h8 (by omega) (by omega) (by simp) hb).mono ?_
        rintro e w6 ⟨rfl, vo6, hp6, hw6⟩
        obtain ⟨vc6, hr6, ho6⟩ := hp6.row
        have hcc := cell_of_heap hr6 15
        simp [pc] at hcc
        have hst := Pr.str (m := m) (b := 0) ho6
        have hwz := Hbl.out.chg.size
        have hch : Chg Nowhere w w6 := hc.trans hw6.chg (by
          intro j hj hs
          rcases hs with h | ⟨x, h, _⟩
          · omega
          · cases h)
        have hbs := hp6.lt_size
        simp only [List.nil_append] at hst hcc
        clear h0 h8 hT hp hp6 hw6 hr6 ho6 hc
        go_wp2_with fail
        go_ret
        exact ⟨rfl, hch⟩
      · go_wp2_with (refine wpList_store_new rfl 70 (.tmp 14) (.tmp 39) rfl _ _ rfl _ rfl (by simp) rfl 43 size70 rfl rfl (by kernel_rfl) ?_)
        have hc : Chg Nowhere w ((wr.alloc (.cells (pc m (.slice none 0 0)) 70)).alloc (.cells #[.int .u8 0, .slice (some ⟨gt, 0, none⟩) k vc] 80)) := ((Hbl.out.chg.alloc _).alloc _)
        obtain ⟨g, hT⟩ := Hbl.out.terms (.cells (pc m (.slice none 0 0)) 70) (.cells #[.int .u8 0, .slice (some ⟨gt, 0, none⟩) k vc] 80)
        have h0 : ((wr.alloc (.cells (pc m (.slice none 0 0)) 70)).alloc (.cells #[.int .u8 0, .slice (some ⟨gt, 0, none⟩) k vc] 80)).heap[wr.heap.size]? = some (.cells (pc m (.slice none 0 0)) 70) := heap_alloc_keep (heap_alloc_at wr _ _ rfl) _
        have h8 : ((wr.alloc (.cells (pc m (.slice none 0 0)) 70)).alloc (.cells #[.int .u8 0, .slice (some ⟨gt, 0, none⟩) k vc] 80)).heap[wr.heap.size + 1]? = some (.cells #[.int .u8 0, .slice (some ⟨gt, 0, none⟩) k vc] 80) := heap_alloc_at _ _ _ (by simp)
        have hs : ((wr.alloc (.cells (pc m (.slice none 0 0)) 70)).alloc (.cells #[.int .u8 0, .slice (some ⟨gt, 0, none⟩) k vc] 80)).heap.size = wr.heap.size + 2 := by simp
        unfold pc at hc hT h0 h8 hs
        generalize hw5 : World.alloc _ _ = w5 at hc hT h0 h8 hs ⊢
        clear hw5
        have hp : Pr (wr.heap.size + 2) wr.heap.size m none [] w5 := Pr.fresh _ _ m w5 (by omega) (by omega) h0
        refine (mq_bin false m true (wr.heap.size + 2) wr.heap.size (wr.heap.size + 1) gt k vc g f [] w5 none hp hT h8 (by omega) (by omega) (by simp) hb).mono ?_
        rintro e w6 ⟨rfl, vo6, hp6, hw6⟩
        obtain ⟨vc6, hr6, ho6⟩ := hp6.row
        have hcc := cell_of_heap hr6 15
        simp [pc] at hcc
        have hst := Pr.str (m := m) (b := 0) ho6
        have hwz := Hbl.out.chg.size
        have hch : Chg Nowhere w w6 := hc.trans hw6.chg (by
          intro j hj hs
          rcases hs with h | ⟨x, h, _⟩
          · omega
          · cases h)
        have hbs := hp6.lt_size
        simp only [List.nil_append] at hst hcc
        clear h0 h8 hT hp hp6 hw6 hr6 ho6 hc
        go_wp2_with fail
        go_ret
        exact ⟨rfl, hch⟩
      · go_wp2_with (refine wpList_store_new rfl 70 (.tmp 14) (.tmp 39) rfl _ _ rfl _ rfl (by simp) rfl 43 size70 rfl rfl (by kernel_rfl) ?_)
        have hc : Chg Nowhere w ((wr.alloc (.cells (pc m (.slice none 0 0)) 70)).alloc (.cells #[.int .u8 0, .slice (some ⟨gt, 0, none⟩) k vc] 80)) := ((Hbl.out.chg.alloc _).alloc _)
        obtain ⟨g, hT⟩ := Hbl.out.terms (.cells (pc m (.slice none 0 0)) 70) (.cells #[.int .u8 0, .slice (some ⟨gt, 0, none⟩) k vc] 80)
        have h0 : ((wr.alloc (.cells (pc m (.slice none 0 0)) 70)).alloc (.cells #[.int .u8 0, .slice (some ⟨gt, 0, none⟩) k vc] 80)).heap[wr.heap.size]? = some (.cells (pc m (.slice none 0 0)) 70) := heap_alloc_keep (heap_alloc_at wr _ _ rfl) _
        have h8 : ((wr.alloc (.cells (pc m (.slice none 0 0)) 70)).alloc (.cells #[.int .u8 0, .slice (some ⟨gt, 0, none⟩) k vc] 80)).heap[wr.heap.size + 1]? = some (.cells #[.int .u8 0, .slice (some ⟨gt, 0, none⟩) k vc] 80) := heap_alloc_at _ _ _ (by simp)
        have hs : ((wr.alloc (.cells (pc m (.slice none 0 0)) 70)).alloc (.cells #[.int .u8 0, .slice (some ⟨gt, 0, none⟩) k vc] 80)).heap.size = wr.heap.size + 2 := by simp
        unfold pc at hc hT h0 h8 hs
        generalize hw5 : World.alloc _ _ = w5 at hc hT h0 h8 hs ⊢
        clear hw5
        have hp : Pr (wr.heap.size + 2) wr.heap.size m none [] w5 := Pr.fresh _ _ m w5 (by omega) (by omega) h0
        refine (mq_bin false m false (wr.heap.size + 2) wr.heap.size (wr.heap.size + 1) gt k vc g f [] w5 none hp hT h8 (by omega) (by omega) (by simp) hb).mono ?_
        rintro e w6 ⟨rfl, vo6, hp6, hw6⟩
        obtain ⟨vc6, hr6, ho6⟩ := hp6.row
        have hcc := cell_of_heap hr6 15
        simp [pc] at hcc
        have hst := Pr.str (m := m) (b := 0) ho6
        have hwz := Hbl.out.chg.size
        have hch : Chg Nowhere w w6 := hc.trans hw6.chg (by
          intro j hj hs
          rcases hs with h | ⟨x, h, _⟩
          · omega
          · cases h)
        have hbs := hp6.lt_size
        simp only [List.nil_append] at hst hcc
        clear h0 h8 hT hp hp6 hw6 hr6 ho6 hc
        go_wp2_with fail
        go_ret
        exact ⟨rfl, hch⟩
end Go.Proofs.YtogkpfdnfjlflaaGreatFmt
