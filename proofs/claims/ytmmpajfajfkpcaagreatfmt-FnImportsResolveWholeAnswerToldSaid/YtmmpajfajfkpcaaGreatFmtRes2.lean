/-
  Proved: contract of esmPackageImportsExportsResolve where no key matches. No statement of the seat stands here.
-/
import Derived.Test.YtmmpajfajfkpcaaGreatFmtRes
import Derived.Deep.DeepCutAuto
namespace Go.Proofs.YtmmpajfajfkpcaaGreatFmt
open Go.RowKit Go.ChangeAt
set_option linter.unusedSimpArgs false
set_option linter.unusedVariables false
set_option maxRecDepth 100000
def rq : Array Value := #[.pointer none, .pointer none, .pointer none, .int .u8 0]
def dbg (x y : Int) : Array Value := #[.string ⟨#[]⟩, .slice none 0 0, .int .i32 x, .int .i32 y, .bool false]
/-- What lies in the three blocks that the function lays at its begin. -/
structure Fr15 (w wr : World) (en z : Array Value) : Prop where
  q : wr.heap[w.heap.size]? = some (.cells rq 54 (0, 0))
  d : wr.heap[w.heap.size + 1]? = some (.cells en 42 (0, 0))
  z : wr.heap[w.heap.size + 1 + 1]? = some (.cells z 47 (0, 0))
  chg : Chg Nowhere w wr
theorem Fr15.start (w : World) (en z : Array Value) : Fr15 w (((w.alloc (.cells rq 54)).alloc (.cells en 42)).alloc (.cells z 47)) en z :=
  ⟨heap_keep (heap_keep (heap_at w _ _ rfl) _) _, heap_keep (heap_at _ _ _ (by simp)) _, heap_at _ _ _ (by simp), (((Chg.refl _ w).alloc _).alloc _).alloc _⟩
theorem Fr15.keep {w wr w' : World} {en z : Array Value} (h : Fr15 w wr en z) (hc : Chg Nowhere wr w') : Fr15 w w' en z :=
  ⟨hc.heap h.q (fun h => h), hc.heap h.d (fun h => h), hc.heap h.z (fun h => h), h.chg.trans hc (fun _ _ h => h)⟩
theorem Fr15.drew {w wr : World} {en z : Array Value} (h : Fr15 w wr en z) : Fr15 w wr.drew en z := h.keep (Chg.refl _ wr).drew
def st5 (wr : World) (b : Nat) (a0 a1 a2 a3 a4 : Value) : World := ((((wr.setCell ⟨b, 0, none⟩ a0).setCell ⟨b, 1, none⟩ a1).setCell ⟨b, 2, none⟩ a2).setCell ⟨b, 3, none⟩ a3).setCell ⟨b, 4, none⟩ a4
theorem st5_heap {wr : World} {b : Nat} {z0 z1 z2 z3 z4 : Value} (h : wr.heap[b]? = some (.cells #[z0, z1, z2, z3, z4] 47 (0, 0))) (a0 a1 a2 a3 a4 : Value) : (st5 wr b a0 a1 a2 a3 a4).heap[b]? = some (.cells #[a0, a1, a2, a3, a4] 47 (0, 0)) := by
  unfold st5
  have h1 := heap_setCell h 0 a0
  have h2 := heap_setCell h1 1 a1
  have h3 := heap_setCell h2 2 a2
  have h4 := heap_setCell h3 3 a3
  have h5 := heap_setCell h4 4 a4
  rw [h5]
  rfl
theorem st5_chg {w wr : World} {b : Nat} (h : Chg Nowhere w wr) (hb : w.heap.size ≤ b) (a0 a1 a2 a3 a4 : Value) : Chg Nowhere w (st5 wr b a0 a1 a2 a3 a4) := by
  unfold st5
  have hp : ∀ j, (⟨b, j, none⟩ : Addr).block < w.heap.size → Nowhere (⟨b, j, none⟩ : Addr).block := fun j h => by simp at h; omega
  exact ((((h.setCell (hp 0) a0).setCell (hp 1) a1).setCell (hp 2) a2).setCell (hp 3) a3).setCell (hp 4) a4
def Out15 (x y : Int) (w : World) (e : Ending) (w' : World) : Prop := e = .returned (.tuple #[.string ⟨#[]⟩, .int .u8 2, .agg (dbg x y)]) ∧ Chg Nowhere w w'
theorem drew_heap (w : World) : w.drew.heap = w.heap := rfl
set_option maxHeartbeats 16000000 in
theorem resolve15 (ma : Option Addr) (n mc : Nat) (f : Nat → ByteArray) (x y kd : Int) (s : ByteArray) (v5 : Value) (w : World) (hI : Items w ma n f) (hne : Exp s ∨ ∀ i, i < n → f i ≠ s) (hn : n ≤ 1048576) (hs : s.size ≤ 1048576) :
    Calls Tryz.prog 15 #[.agg rq, .string s, .agg (ent ma n mc x y kd), .string ⟨#[47]⟩, .bool true, v5] w (Out15 x y w) := by
  have HI := Lib.hid hI
  have Hne := Lib.hid hne
  have HF0 := Lib.hid (Fr15.start w (ent ma n mc x y kd) (dbg 0 0))
  clear hI hne
  unfold rq ent dbg at HF0
  unfold rq ent
  go_enter Tryz.func15, Tryz.ntmps15
  go_upto_region 1 with fail
  have hF := HF0.out
  generalize hw1 : World.alloc _ _ = w1 at hF ⊢
  clear hw1 HF0
  have q2 := cell_of_heap hF.q 2
  have d0 := cell_of_heap hF.d 0
  have d1 := cell_of_heap hF.d 1
  have d2 := cell_of_heap hF.d 2
  have d3 := cell_of_heap hF.d 3
  have d4 := cell_of_heap hF.d 4
  have d5 := cell_of_heap hF.d 5
  have d6 := cell_of_heap hF.d 6
  have z0 := cell_of_heap hF.z 0
  have z1 := cell_of_heap hF.z 1
  have z2 := cell_of_heap hF.z 2
  have z3 := cell_of_heap hF.z 3
  have z4 := cell_of_heap hF.z 4
  simp [rq] at q2 d0 d1 d2 d3 d4 d5 d6 z0 z1 z2 z3 z4
  have fz : ∀ j, w1.frozen? ⟨w.heap.size + 1 + 1, j, none⟩ = false := fun j => frozen_of_heap hF.z j
  have l1 := heap_lt hF.q
  have l2 := heap_lt hF.d
  have l3 := heap_lt hF.z
  have HF := Lib.hid hF
  clear hF
  go_wp2_with fail
  refine (Tryz.strings_HasSuffix s ⟨#[47]⟩ w1 (by omega)).mono ?_
  rintro e1 w2 ⟨rfl, rfl⟩
  cases hsuf : Lib.hasSuffix s.data.toList [47]
  · go_wp2_with fail
    refine (Tryz.strings_IndexByte s 42 w2).mono ?_
    rintro e2 w3 ⟨rfl, rfl⟩
    obtain ⟨ix, hix⟩ : ∃ ix, ix = Lib.indexByte s.data.toList 42 := ⟨_, rfl⟩
    have hix2 : Lib.indexByte s.data.toList (Int.toNat 42).toUInt8 = ix := hix.symm
    rw [hix2]
    have Hix := Lib.hid hix
    have Hsuf := Lib.hid hsuf
    clear hix hix2 hsuf
    by_cases hneg : ix < 0
    · have hall : ∀ i, i < n → f i ≠ s := by
        rcases Hne.out with h | h
        · rcases h with h | h
          · rw [Hsuf.out] at h; cases h
          · have := Hix.out; omega
        · exact h
      go_wp2_with fail
      refine (value20 ma n mc f x y kd s w3 (HI.out.keep HF.out.chg) hall hn).mono ?_
      rintro e4 w4 ⟨rfl, hc4⟩
      have hF4 := HF.out.keep hc4
      have q2b := cell_of_heap hF4.q 2
      have d0b := cell_of_heap hF4.d 0
      have d1b := cell_of_heap hF4.d 1
      have d2b := cell_of_heap hF4.d 2
      have d3b := cell_of_heap hF4.d 3
      have d4b := cell_of_heap hF4.d 4
      have d5b := cell_of_heap hF4.d 5
      have d6b := cell_of_heap hF4.d 6
      have z0b := cell_of_heap hF4.z 0
      have z1b := cell_of_heap hF4.z 1
      have z2b := cell_of_heap hF4.z 2
      have z3b := cell_of_heap hF4.z 3
      have z4b := cell_of_heap hF4.z 4
      simp [rq] at q2b d0b d1b d2b d3b d4b d5b d6b z0b z1b z2b z3b z4b
      have fzb : ∀ j, w4.frozen? ⟨w.heap.size + 1 + 1, j, none⟩ = false := fun j => frozen_of_heap hF4.z j
      have l1b := heap_lt hF4.q
      have l2b := heap_lt hF4.d
      have l3b := heap_lt hF4.z
      have HF4 := Lib.hid hF4
      clear hF4 hc4
      go_wp2_with fail
      have HF5 : Hid (Fr15 w (w4.alloc (.cells #[.string ⟨#[]⟩, .slice none 0 0, .slice none 0 0, .slice none 0 0, .int .i32 0, .int .i32 0, .int .u8 0] 42)) #[.string ⟨#[]⟩, .slice none 0 0, .slice ma n mc, .slice none 0 0, .int .i32 x, .int .i32 y, .int .u8 kd] #[.string ⟨#[]⟩, .slice none 0 0, .int .i32 0, .int .i32 0, .bool false]) := Lib.hid (HF4.out.keep ((Chg.refl _ w4).alloc _))
      go_loopw [76] (fun i wr => i = .int .i64 0 ∧ Fr15 w wr #[.string ⟨#[]⟩, .slice none 0 0, .slice ma n mc, .slice none 0 0, .int .i32 x, .int .i32 y, .int .u8 kd] #[.string ⟨#[]⟩, .slice none 0 0, .int .i32 0, .int .i32 0, .bool false]) (fun _ _ => 0)
      case atStart => exact ⟨rfl, HF5.out⟩
      case round =>
        obtain ⟨rfl, hFr⟩ := hrel
        have q2r := cell_of_heap hFr.q 2
        have d0r := cell_of_heap hFr.d 0
        have d1r := cell_of_heap hFr.d 1
        have d2r := cell_of_heap hFr.d 2
        have d3r := cell_of_heap hFr.d 3
        have d4r := cell_of_heap hFr.d 4
        have d5r := cell_of_heap hFr.d 5
        have d6r := cell_of_heap hFr.d 6
        have z0r := cell_of_heap hFr.z 0
        have z1r := cell_of_heap hFr.z 1
        have z2r := cell_of_heap hFr.z 2
        have z3r := cell_of_heap hFr.z 3
        have z4r := cell_of_heap hFr.z 4
        simp [rq] at q2r d0r d1r d2r d3r d4r d5r d6r z0r z1r z2r z3r z4r
        have fzr : ∀ j, wr.frozen? ⟨w.heap.size + 1 + 1, j, none⟩ = false := fun j => frozen_of_heap hFr.z j
        have l1r := heap_lt hFr.q
        have l2r := heap_lt hFr.d
        have l3r := heap_lt hFr.z
        have HFr := Lib.hid hFr
        clear hFr
        go_wp2_with fail
        go_region
        go_wp2_with fail
        refine bodyPost_ret (v := .tuple #[.string ⟨#[]⟩, .int .u8 2, .agg #[.string ⟨#[]⟩, .slice none 0 0, .int .i32 x, .int .i32 y, .bool false]]) ?_ rfl ⟨rfl, (st5_chg HFr.out.chg (by omega) _ _ _ _ _).drew⟩
        exact (results_ttc (t := 12) (u := 13) (p := 14) (ty := 47) (by rfl) _ _ _ (w.heap.size + 1 + 1) _ (by rfl) (load47 ((congrArg (fun hp : Array Obj => hp[w.heap.size + 1 + 1]?) (drew_heap _)).trans (st5_heap HFr.out.z _ _ _ _ _)) (by rfl))).trans (by rfl)
    · have hneg2 : ¬ ix < 0 := hneg
      go_wp2_with fail
      go_loopw [76] (fun i wr => i = .int .i64 0 ∧ Fr15 w wr #[.string ⟨#[]⟩, .slice none 0 0, .slice ma n mc, .slice none 0 0, .int .i32 x, .int .i32 y, .int .u8 kd] #[.string ⟨#[]⟩, .slice none 0 0, .int .i32 0, .int .i32 0, .bool false]) (fun _ _ => 0)
      case atStart => exact ⟨rfl, HF.out⟩
      case round =>
        obtain ⟨rfl, hFr⟩ := hrel
        have q2r := cell_of_heap hFr.q 2
        have d0r := cell_of_heap hFr.d 0
        have d1r := cell_of_heap hFr.d 1
        have d2r := cell_of_heap hFr.d 2
        have d3r := cell_of_heap hFr.d 3
        have d4r := cell_of_heap hFr.d 4
        have d5r := cell_of_heap hFr.d 5
        have d6r := cell_of_heap hFr.d 6
        have z0r := cell_of_heap hFr.z 0
        have z1r := cell_of_heap hFr.z 1
        have z2r := cell_of_heap hFr.z 2
        have z3r := cell_of_heap hFr.z 3
        have z4r := cell_of_heap hFr.z 4
        simp [rq] at q2r d0r d1r d2r d3r d4r d5r d6r z0r z1r z2r z3r z4r
        have fzr : ∀ j, wr.frozen? ⟨w.heap.size + 1 + 1, j, none⟩ = false := fun j => frozen_of_heap hFr.z j
        have l1r := heap_lt hFr.q
        have l2r := heap_lt hFr.d
        have l3r := heap_lt hFr.z
        have HFr := Lib.hid hFr
        clear hFr
        go_wp2_with fail
        go_region
        go_wp2_with fail
        refine bodyPost_ret (v := .tuple #[.string ⟨#[]⟩, .int .u8 2, .agg #[.string ⟨#[]⟩, .slice none 0 0, .int .i32 x, .int .i32 y, .bool false]]) ?_ rfl ⟨rfl, (st5_chg HFr.out.chg (by omega) _ _ _ _ _).drew⟩
        exact (results_ttc (t := 12) (u := 13) (p := 14) (ty := 47) (by rfl) _ _ _ (w.heap.size + 1 + 1) _ (by rfl) (load47 ((congrArg (fun hp : Array Obj => hp[w.heap.size + 1 + 1]?) (drew_heap _)).trans (st5_heap HFr.out.z _ _ _ _ _)) (by rfl))).trans (by rfl)
  · clear hsuf
    go_wp2_with fail
    go_loopw [76] (fun i wr => i = .int .i64 0 ∧ Fr15 w wr #[.string ⟨#[]⟩, .slice none 0 0, .slice ma n mc, .slice none 0 0, .int .i32 x, .int .i32 y, .int .u8 kd] #[.string ⟨#[]⟩, .slice none 0 0, .int .i32 0, .int .i32 0, .bool false]) (fun _ _ => 0)
    case atStart => exact ⟨rfl, HF.out⟩
    case round =>
      obtain ⟨rfl, hFr⟩ := hrel
      have q2r := cell_of_heap hFr.q 2
      have d0r := cell_of_heap hFr.d 0
      have d1r := cell_of_heap hFr.d 1
      have d2r := cell_of_heap hFr.d 2
      have d3r := cell_of_heap hFr.d 3
      have d4r := cell_of_heap hFr.d 4
      have d5r := cell_of_heap hFr.d 5
      have d6r := cell_of_heap hFr.d 6
      have z0r := cell_of_heap hFr.z 0
      have z1r := cell_of_heap hFr.z 1
      have z2r := cell_of_heap hFr.z 2
      have z3r := cell_of_heap hFr.z 3
      have z4r := cell_of_heap hFr.z 4
      simp [rq] at q2r d0r d1r d2r d3r d4r d5r d6r z0r z1r z2r z3r z4r
      have fzr : ∀ j, wr.frozen? ⟨w.heap.size + 1 + 1, j, none⟩ = false := fun j => frozen_of_heap hFr.z j
      have l1r := heap_lt hFr.q
      have l2r := heap_lt hFr.d
      have l3r := heap_lt hFr.z
      have HFr := Lib.hid hFr
      clear hFr
      go_wp2_with fail
      go_region
      go_wp2_with fail
      refine bodyPost_ret (v := .tuple #[.string ⟨#[]⟩, .int .u8 2, .agg #[.string ⟨#[]⟩, .slice none 0 0, .int .i32 x, .int .i32 y, .bool false]]) ?_ rfl ⟨rfl, (st5_chg HFr.out.chg (by omega) _ _ _ _ _).drew⟩
      exact (results_ttc (t := 12) (u := 13) (p := 14) (ty := 47) (by rfl) _ _ _ (w.heap.size + 1 + 1) _ (by rfl) (load47 ((congrArg (fun hp : Array Obj => hp[w.heap.size + 1 + 1]?) (drew_heap _)).trans (st5_heap HFr.out.z _ _ _ _ _)) (by rfl))).trans (by rfl)
end Go.Proofs.YtmmpajfajfkpcaaGreatFmt
