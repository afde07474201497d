/-
  Proved: the contract of the mock file system's making and of the handler's. No statement of the seat stands here.
-/
import Derived.Test.YtambbfgmbfamkaaGreatDoorSmap
import Derived.Test.YtambbfgmbfamkaaGreatDoorHela
import Derived.Laws.IdiomRangeMap
namespace Go.Proofs.YtambbfgmbfamkaaGreatDoor
open Go.RowKit Go.ChangeAt
set_option linter.unusedSimpArgs false
set_option linter.unusedVariables false
set_option maxRecDepth 100000
/-- The mock file system at block m. -/
def IsMock (w : World) (m : Nat) : Prop := w.cell? ⟨m, 4, none⟩ = some (.int .u8 0)
set_option maxHeartbeats 4000000 in
theorem mock14 (w : World) : Calls Tryz.prog 14 #[.map none, .int .u8 0, .string ⟨#[47]⟩] w (fun e w' => ∃ m, e = .returned (.iface 86 (.pointer (some ⟨m, 0, none⟩))) ∧ w.heap.size ≤ m ∧ m < w'.heap.size ∧ IsMock w' m ∧ Chg Nowhere w w') := by
  have hmm := @run_makeMap Tryz.prog
  obtain ⟨W, hW⟩ : ∃ W, W = (w.alloc (.map #[] 0)).alloc (.map #[] 0) := ⟨_, rfl⟩
  have hrg := run_range_nilMap (P := Tryz.prog) W 63 _ _ Tryz.underlying63
  have hnx : ∀ ty, (Instr.next (.pointer (some ⟨W.heap.size, 0, none⟩)) false ty).run Tryz.prog (W.alloc (.mapIter none 0 #[] 0)) = _ := fun ty => run_next_nilMap W ty 0 0 #[]
  have hz : W.heap.size = w.heap.size + 1 + 1 := by rw [hW]; show ((w.heap.push _).push _).size = _; rw [Array.size_push, Array.size_push]
  rw [hz] at hrg hnx
  rw [hW] at hrg hnx
  clear hz hW
  go_enter Tryz.func14, Tryz.ntmps14
  go_wp2
  refine wp_loop_rounds 1 ?_
  rw [rounds_succ]
  go_wp2
  clear hrg hnx
  go_ret
  refine ⟨_, rfl, by omega, ?_, ?_, ?_⟩
  · show _ < ((((w.heap.push _).push _).push _).push _).size
    simp only [Array.size_push]
    omega
  · refine (cell_of_heap (cs := #[.map (some w.heap.size), .map (some (w.heap.size + 1)), .string ⟨#[47]⟩, .string ⟨#[]⟩, .int .u8 0]) (e := 88) (fz := (0, 0)) ?_ 4).trans rfl
    have hz : (((w.alloc (.map #[] 0)).alloc (.map #[] 0)).alloc (.mapIter none 0 #[] 0)).heap.size = w.heap.size + 1 + 1 + 1 := by
      show (((w.heap.push _).push _).push _).size = _
      simp only [Array.size_push]
    rw [← hz]
    exact heap_alloc_new _ _
  · exact ((((Chg.refl _ w).alloc _).alloc _).alloc _).alloc _
/-- The handler at block h: its file system is the mock at m, its folder is d. -/
structure IsHand (w : World) (h m : Nat) (d : ByteArray) : Prop where
  fs : w.cell? ⟨h, 3, none⟩ = some (.iface 86 (.pointer (some ⟨m, 0, none⟩)))
  dir : w.cell? ⟨h, 4, none⟩ = some (.string d)
  mock : IsMock w m
theorem IsHand.kept {S : Nat → Prop} {w w' : World} {h m : Nat} {d : ByteArray} (hh : IsHand w h m d) (hc : Chg S w w') (h1 : ¬ S h) (h2 : ¬ S m) : IsHand w' h m d :=
  ⟨hc.cell hh.fs h1, hc.cell hh.dir h1, hc.cell hh.mock h2⟩
set_option maxHeartbeats 4000000 in
theorem hand8 (d : ByteArray) (w : World) : Calls Tryz.prog 8 #[.string d] w (fun e w' => ∃ h m, e = .returned (.pointer (some ⟨h, 0, none⟩)) ∧ w.heap.size ≤ m ∧ w.heap.size ≤ h ∧ IsHand w' h m d ∧ Chg Nowhere w w') := by
  go_enter Tryz.func8, Tryz.ntmps8
  go_wp2_with fail
  refine (mock14 _).mono ?_
  rintro e1 w1 ⟨m, rfl, hm1, hm2, hm3, hc⟩
  have Hm := Lib.hid hm3
  have Hc := Lib.hid hc
  clear hm3 hc
  go_wp2
  go_ret
  have h2 := Hc.out.size
  refine ⟨_, m, rfl, hm1, h2, ⟨?_, ?_, ?_⟩, Hc.out.alloc _⟩
  · exact (cell_of_heap (heap_alloc_new _ _) 3).trans rfl
  · exact (cell_of_heap (heap_alloc_new _ _) 4).trans rfl
  · exact ((Chg.refl Nowhere w1).alloc _).cell Hm.out (fun h => h)
end Go.Proofs.YtambbfgmbfamkaaGreatDoor
