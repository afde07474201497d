/-
  Proved: contracts of valueForKey and keysStartWithDot. No statement of the seat stands here.
-/
import Derived.Test.YtcbmankbjgbjgaaGreatFmtTgt
namespace Go.Proofs.YtcbmankbjgbjgaaGreatFmt
open Go.RowKit Go.ChangeAt
set_option linter.unusedSimpArgs false
set_option linter.unusedVariables false
set_option maxRecDepth 100000
def oent (ma : Option Addr) (n mc : Nat) (ea : Option Addr) (ec : Nat) : Array Value := #[.string ⟨#[]⟩, .slice none 0 0, .slice ma n mc, .slice ea 0 ec, .int .i32 0, .int .i32 0, .int .u8 3]
def item (k t : ByteArray) : Array Value := #[.string k, .string t, .slice none 0 0, .slice none 0 0, .slice none 0 0, .int .i32 0, .int .i32 0, .int .u8 1, .int .i32 0, .int .i32 0]
def Items (w : World) (ma : Option Addr) (n : Nat) (f t : Nat → ByteArray) : Prop := n = 0 ∨ ∃ g, ma = some ⟨g, 0, none⟩ ∧ ∀ i, i < n → ∀ q, q < 10 → w.cell? ⟨g, i * 10 + q, none⟩ = (item (f i) (t i))[q]?
theorem Items.keep {w w' : World} {ma : Option Addr} {n : Nat} {f t : Nat → ByteArray} (h : Items w ma n f t) (hc : Chg Nowhere w w') : Items w' ma n f t := by
  rcases h with h | ⟨g, e, h⟩
  · exact .inl h
  · refine .inr ⟨g, e, fun i hi q hq => ?_⟩
    have h1 := h i hi q hq
    have hv : (item (f i) (t i))[q]? = some ((item (f i) (t i))[q]'(by simpa [item] using hq)) := Array.getElem?_eq_getElem _
    rw [hv] at h1 ⊢
    exact hc.cell h1 (fun h => h)
def zent : Array Value := #[.string ⟨#[]⟩, .slice none 0 0, .slice none 0 0, .slice none 0 0, .int .i32 0, .int .i32 0, .int .u8 0]
def ValOut (n : Nat) (f t : Nat → ByteArray) (s : ByteArray) (w : World) (e : Ending) (w' : World) : Prop :=
  ((∃ i, i < n ∧ f i = s ∧ (∀ j, j < i → f j ≠ s) ∧ e = .returned (.tuple #[.agg (sent (t i)), .bool true])) ∨ ((∀ i, i < n → f i ≠ s) ∧ e = .returned (.tuple #[.agg zent, .bool false]))) ∧ Chg Nowhere w w'
set_option maxHeartbeats 8000000 in
theorem value28 (ma : Option Addr) (n mc : Nat) (ea : Option Addr) (ec : Nat) (f t : Nat → ByteArray) (s : ByteArray) (w : World) (hI : Items w ma n f t) (hn : n ≤ 1048576) :
    Calls Tryz.prog 28 #[.agg (oent ma n mc ea ec), .string s] w (ValOut n f t s w) := by
  have HI := Lib.hid hI
  clear hI
  have Hc0 : Hid (Chg Nowhere w ((w.alloc (.cells (oent ma n mc ea ec) 59)).alloc (.cells zent 59))) := Lib.hid (((Chg.refl _ w).alloc _).alloc _)
  have Hz : Hid (((w.alloc (.cells (oent ma n mc ea ec) 59)).alloc (.cells zent 59)).heap[w.heap.size + 1]? = some (.cells zent 59 (0, 0))) := Lib.hid (heap_at _ _ _ (by simp))
  have hl0 : ((w.alloc (.cells (oent ma n mc ea ec) 59)).alloc (.cells zent 59)).heap.size = w.heap.size + 1 + 1 := by simp
  unfold oent zent at Hc0 Hz hl0
  unfold oent
  go_enter Tryz.func28, Tryz.ntmps28
  go_wp2_with fail
  generalize hw0 : World.alloc (World.alloc w _) _ = w0 at Hc0 Hz hl0 ⊢
  clear hw0
  go_loopw [11] (fun i wr => ∃ k : Nat, k ≤ n ∧ i = .int .i64 k ∧ Chg Nowhere w0 wr ∧ ∀ j, j < k → f j ≠ s) (fun i _ => n - (intOf i).toNat)
  case atStart => exact ⟨0, by omega, rfl, Chg.refl _ _, fun j hj => by omega⟩
  case round =>
    obtain ⟨k, hk, rfl, hch, hno⟩ := hrel
    have hsz := hch.size
    have hz := hch.heap Hz.out (fun h => h)
    have z0 := cell_of_heap hz 0
    have z1 := cell_of_heap hz 1
    have z2 := cell_of_heap hz 2
    have z3 := cell_of_heap hz 3
    have z4 := cell_of_heap hz 4
    have z5 := cell_of_heap hz 5
    have z6 := cell_of_heap hz 6
    simp at z0 z1 z2 z3 z4 z5 z6
    have fz : ∀ j, wr.frozen? ⟨w.heap.size + 1, j, none⟩ = false := fun j => frozen_of_heap hz j
    have hcw := Hc0.out.trans hch (fun _ _ h => h)
    have Hzz := Lib.hid hz
    have Hch := Lib.hid hch
    have Hcw := Lib.hid hcw
    have Hno := Lib.hid hno
    clear hch hz hcw hno
    have hlz := heap_lt Hzz.out
    by_cases hlt : k < n
    · rcases HI.out with h0 | ⟨g, rfl, hR⟩
      · omega
      have cc : ∀ q, q < 10 → wr.cell? ⟨g, k * 10 + q, none⟩ = (item (f k) (t k))[q]? := fun q hq => by
        have h1 := hR k hlt q hq
        have hv : (item (f k) (t k))[q]? = some ((item (f k) (t k))[q]'(by simpa [item] using hq)) := Array.getElem?_eq_getElem _
        rw [hv] at h1 ⊢
        exact Hcw.out.cell h1 (fun h => h)
      have c0 := cc 0 (by decide)
      have c1 := cc 1 (by decide)
      have c2 := cc 2 (by decide)
      have c3 := cc 3 (by decide)
      have c4 := cc 4 (by decide)
      have c5 := cc 5 (by decide)
      have c6 := cc 6 (by decide)
      have c7 := cc 7 (by decide)
      have c8 := cc 8 (by decide)
      have c9 := cc 9 (by decide)
      simp only [item, List.getElem?_toArray, List.getElem?_cons_succ, List.getElem?_cons_zero, Nat.add_zero] at c0 c1 c2 c3 c4 c5 c6 c7 c8 c9
      clear cc hR
      have hx1 : (k : Int) < (n : Int) := by omega
      have hx0 : (0 : Int) ≤ (k : Int) := by omega
      by_cases hne : f k = s
      · have e1 : ((f k).toList == s.toList) = true := by rw [hne]; simp
        have Hne := Lib.hid hne
        clear hne
        go_wp2_with fail
        refine bodyPost_ret (v := .tuple #[.agg (sent (t k)), .bool true]) ?_ rfl ⟨.inl ⟨k, hlt, Hne.out, Hno.out, rfl⟩, (st7_chg Hcw.out (by omega) _ _ _ _ _ _ _).alloc _⟩
        exact (results_ct (t := 5) (p := 4) (ty := 59) (by rfl) _ _ _ (w.heap.size + 1) _ (by rfl) (load59 (heap_keep (st7_heap Hzz.out _ _ _ _ _ _ _) _) (by rfl))).trans (by rfl)
      · have e1 : ((f k).toList == s.toList) = false := by
          refine beq_eq_false_iff_ne.2 fun e => hne ?_
          rw [ByteArray.toList_eq, ByteArray.toList_eq] at e
          exact WideShapes.bytes_inj e
        have Hne := Lib.hid hne
        clear hne z0 z1 z2 z3 z4 z5 z6
        go_wp2_with fail
        go_roundw
        case rel => exact ⟨k + 1, by omega, by go_num, Hch.out.alloc _, fun j hj => by
          by_cases e : j = k
          · subst e; exact Hne.out
          · exact Hno.out j (by omega)⟩
        case measure => simp [intOf]; omega
    · have hx1 : ¬ (k : Int) < (n : Int) := by omega
      obtain rfl : k = n := by omega
      go_wp2_with fail
      refine bodyPost_ret (v := .tuple #[.agg zent, .bool false]) ?_ rfl ⟨.inr ⟨Hno.out, rfl⟩, st7_chg Hcw.out (by omega) _ _ _ _ _ _ _⟩
      exact (results_ct (t := 5) (p := 4) (ty := 59) (by rfl) _ _ _ (w.heap.size + 1) _ (by rfl) (load59 (st7_heap Hzz.out _ _ _ _ _ _ _) (by rfl))).trans (by rfl)
def BoolOut (r : Bool) (w : World) (e : Ending) (w' : World) : Prop := e = .returned (.bool r) ∧ Chg Nowhere w w'
set_option maxHeartbeats 8000000 in
theorem dot27 (ma : Option Addr) (n mc : Nat) (ea : Option Addr) (ec : Nat) (f t : Nat → ByteArray) (r : Bool) (w : World) (hI : Items w ma n f t) (hn : n ≤ 1048576) (hr : 0 < n → r = Lib.hasPrefix (f 0).data.toList [46]) (hr0 : n = 0 → r = false) :
    Calls Tryz.prog 27 #[.agg (oent ma n mc ea ec)] w (BoolOut r w) := by
  have HI := Lib.hid hI
  have Hr := Lib.hid hr
  have Hr0 := Lib.hid hr0
  clear hI hr hr0
  have Hc0 : Hid (Chg Nowhere w (w.alloc (.cells (oent ma n mc ea ec) 59))) := Lib.hid ((Chg.refl _ w).alloc _)
  unfold oent at Hc0
  unfold oent
  by_cases h0 : n = 0
  · have hre := Hr0.out h0
    have Hre := Lib.hid hre
    have hx : ¬ (0 : Int) < (n : Int) := by omega
    clear hre h0
    go_enter Tryz.func27, Tryz.ntmps27
    go_wp2_with fail
    go_ret
    exact ⟨congrArg (fun z => Ending.returned (Value.bool z)) Hre.out.symm, Hc0.out⟩
  · rcases HI.out with h1 | ⟨g, rfl, hR⟩
    · omega
    have c0 := hR 0 (by omega) 0 (by decide)
    simp only [item, List.getElem?_toArray, List.getElem?_cons_zero, Nat.add_zero, Nat.zero_mul] at c0
    have c1 := Hc0.out.cell c0 (fun h => h)
    have hre := Hr.out (by omega)
    have Hre := Lib.hid hre
    have hx : (0 : Int) < (n : Int) := by omega
    clear hre h0 hR
    go_enter Tryz.func27, Tryz.ntmps27
    go_wp2_with fail
    refine (Tryz.strings_HasPrefix (f 0) ⟨#[46]⟩ _).mono ?_
    rintro e2 w2 ⟨rfl, rfl⟩
    go_wp2_with fail
    go_ret
    exact ⟨congrArg (fun z => Ending.returned (Value.bool z)) Hre.out.symm, Hc0.out⟩
end Go.Proofs.YtcbmankbjgbjgaaGreatFmt
