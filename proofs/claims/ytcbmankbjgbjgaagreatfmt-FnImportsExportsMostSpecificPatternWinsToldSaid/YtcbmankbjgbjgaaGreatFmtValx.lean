/-
  Proved: contract of valueForKey at an object with expansion keys. No statement of the seat stands here.
-/
import Derived.Test.YtcbmankbjgbjgaaGreatFmtObjx
namespace Go.Proofs.YtcbmankbjgbjgaaGreatFmt
open Go.RowKit Go.ChangeAt
set_option linter.unusedSimpArgs false
set_option linter.unusedVariables false
set_option maxRecDepth 100000
set_option maxHeartbeats 8000000 in
theorem value28x (ma : Option Addr) (n mc : Nat) (ea : Option Addr) (en ec : Nat) (f t : Nat → ByteArray) (s : ByteArray) (w : World) (hI : Items w ma n f t) (hn : n ≤ 1048576) :
    Calls Tryz.prog 28 #[.agg (oentx ma n mc ea en ec), .string s] w (ValOut n f t s w) := by
  have HI := Lib.hid hI
  clear hI
  have Hc0 : Hid (Chg Nowhere w ((w.alloc (.cells (oentx ma n mc ea en ec) 59)).alloc (.cells zent 59))) := Lib.hid (((Chg.refl _ w).alloc _).alloc _)
  have Hz : Hid (((w.alloc (.cells (oentx ma n mc ea en ec) 59)).alloc (.cells zent 59)).heap[w.heap.size + 1]? = some (.cells zent 59 (0, 0))) := Lib.hid (heap_at _ _ _ (by simp))
  have hl0 : ((w.alloc (.cells (oentx ma n mc ea en ec) 59)).alloc (.cells zent 59)).heap.size = w.heap.size + 1 + 1 := by simp
  unfold oentx zent at Hc0 Hz hl0
  unfold oentx
  go_enter Tryz.func28, Tryz.ntmps28
  go_wp2_with fail
  generalize hw0 : World.alloc (World.alloc w _) _ = w0 at Hc0 Hz hl0 ⊢
  clear hw0
  go_loopw [11] (fun i wr => ∃ k : Nat, k ≤ n ∧ i = .int .i64 k ∧ Chg Nowhere w0 wr ∧ ∀ j, j < k → f j ≠ s) (fun i _ => n - (intOf i).toNat)
  case atStart => exact ⟨0, by omega, rfl, Chg.refl _ _, fun j hj => by omega⟩
  case round =>
    obtain ⟨k, hk, rfl, hch, hno⟩ := hrel
    have hsz := hch.size
    have hz := hch.heap Hz.out (fun h => h)
    have z0 := cell_of_heap hz 0
    have z1 := cell_of_heap hz 1
    have z2 := cell_of_heap hz 2
    have z3 := cell_of_heap hz 3
    have z4 := cell_of_heap hz 4
    have z5 := cell_of_heap hz 5
    have z6 := cell_of_heap hz 6
    simp at z0 z1 z2 z3 z4 z5 z6
    have fz : ∀ j, wr.frozen? ⟨w.heap.size + 1, j, none⟩ = false := fun j => frozen_of_heap hz j
    have hcw := Hc0.out.trans hch (fun _ _ h => h)
    have Hzz := Lib.hid hz
    have Hch := Lib.hid hch
    have Hcw := Lib.hid hcw
    have Hno := Lib.hid hno
    clear hch hz hcw hno
    have hlz := heap_lt Hzz.out
    by_cases hlt : k < n
    · rcases HI.out with h0 | ⟨g, rfl, hR⟩
      · omega
      have cc : ∀ q, q < 10 → wr.cell? ⟨g, k * 10 + q, none⟩ = (item (f k) (t k))[q]? := fun q hq => by
        have h1 := hR k hlt q hq
        have hv : (item (f k) (t k))[q]? = some ((item (f k) (t k))[q]'(by simpa [item] using hq)) := Array.getElem?_eq_getElem _
        rw [hv] at h1 ⊢
        exact Hcw.out.cell h1 (fun h => h)
      have c0 := cc 0 (by decide)
      have c1 := cc 1 (by decide)
      have c2 := cc 2 (by decide)
      have c3 := cc 3 (by decide)
      have c4 := cc 4 (by decide)
      have c5 := cc 5 (by decide)
      have c6 := cc 6 (by decide)
      have c7 := cc 7 (by decide)
      have c8 := cc 8 (by decide)
      have c9 := cc 9 (by decide)
      simp only [item, List.getElem?_toArray, List.getElem?_cons_succ, List.getElem?_cons_zero, Nat.add_zero] at c0 c1 c2 c3 c4 c5 c6 c7 c8 c9
      clear cc hR
      have hx1 : (k : Int) < (n : Int) := by omega
      have hx0 : (0 : Int) ≤ (k : Int) := by omega
      by_cases hne : f k = s
      · have e1 : ((f k).toList == s.toList) = true := by rw [hne]; simp
        have Hne := Lib.hid hne
        clear hne
        go_wp2_with fail
        refine bodyPost_ret (v := .tuple #[.agg (sent (t k)), .bool true]) ?_ rfl ⟨.inl ⟨k, hlt, Hne.out, Hno.out, rfl⟩, (st7_chg Hcw.out (by omega) _ _ _ _ _ _ _).alloc _⟩
        exact (results_ct (t := 5) (p := 4) (ty := 59) (by rfl) _ _ _ (w.heap.size + 1) _ (by rfl) (load59 (heap_keep (st7_heap Hzz.out _ _ _ _ _ _ _) _) (by rfl))).trans (by rfl)
      · have e1 : ((f k).toList == s.toList) = false := by
          refine beq_eq_false_iff_ne.2 fun e => hne ?_
          rw [ByteArray.toList_eq, ByteArray.toList_eq] at e
          exact WideShapes.bytes_inj e
        have Hne := Lib.hid hne
        clear hne z0 z1 z2 z3 z4 z5 z6
        go_wp2_with fail
        go_roundw
        case rel => exact ⟨k + 1, by omega, by go_num, Hch.out.alloc _, fun j hj => by
          by_cases e : j = k
          · subst e; exact Hne.out
          · exact Hno.out j (by omega)⟩
        case measure => simp [intOf]; omega
    · have hx1 : ¬ (k : Int) < (n : Int) := by omega
      obtain rfl : k = n := by omega
      go_wp2_with fail
      refine bodyPost_ret (v := .tuple #[.agg zent, .bool false]) ?_ rfl ⟨.inr ⟨Hno.out, rfl⟩, st7_chg Hcw.out (by omega) _ _ _ _ _ _ _⟩
      exact (results_ct (t := 5) (p := 4) (ty := 59) (by rfl) _ _ _ (w.heap.size + 1) _ (by rfl) (load59 (st7_heap Hzz.out _ _ _ _ _ _ _) (by rfl))).trans (by rfl)
end Go.Proofs.YtcbmankbjgbjgaaGreatFmt
