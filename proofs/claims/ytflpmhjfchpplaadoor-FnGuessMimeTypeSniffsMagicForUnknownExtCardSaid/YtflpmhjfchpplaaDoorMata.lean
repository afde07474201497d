/-
  Proved: contracts of the signatures' match: html, exact. No statement of the seat stands here.
-/
import Derived.Test.YtflpmhjfchpplaaDoorTabl
import Derived.Test.YtflpmhjfchpplaaDoorShelf
import Derived.Deep.QuietTactic
import Derived.Laws.Bits64b
namespace Go.Proofs.YtflpmhjfchpplaaDoor
open Go.RowKit Go.ChangeAt
set_option linter.unusedSimpArgs false
set_option linter.unusedVariables false
set_option maxRecDepth 100000
def ints (l : List UInt8) : List Int := l.map fun x => (x.toNat : Int)
theorem ints_len (l : List UInt8) : (ints l).length = l.length := by simp [ints]
theorem ints_get (l : List UInt8) (i : Nat) (h : i < l.length) : (ints l).getD i 0 = ((l.getD i 0).toNat : Int) := by
  unfold ints
  rw [List.getD_eq_getElem?_getD, List.getElem?_map, List.getElem?_eq_getElem h, List.getD_eq_getElem?_getD, List.getElem?_eq_getElem h]
  rfl
theorem ints_bytes (l : List UInt8) : Lib.bytesOf (ints l) = l := by
  unfold Lib.bytesOf ints
  rw [List.map_map]
  conv => rhs; rw [← List.map_id l]
  apply List.map_congr_left
  intro b _
  simp
/-- The slice reads as the bytes l. -/
structure Dat (w : World) (a : Option Addr) (n c : Nat) (l : List UInt8) : Prop where
  len : l.length = n
  cap : n ≤ c
  big : c ≤ 9223372036854775807
  cel : Lib.BytesIn w a n (ints l)
theorem Dat.keep {w w' : World} {a : Option Addr} {n c : Nat} {l : List UInt8} (h : Dat w a n c l) (hc : Chg Nowhere w w') : Dat w' a n c l :=
  ⟨h.len, h.cap, h.big, fun hn => by
    obtain ⟨b, o, e, h1⟩ := h.cel hn
    exact ⟨b, o, e, fun i hi => hc.cell (h1 i hi) (fun h => h)⟩⟩
theorem Dat.at {w : World} {a : Option Addr} {n c : Nat} {l : List UInt8} (h : Dat w a n c l) (hn : 0 < n) : ∃ b o, a = some ⟨b, o, none⟩ ∧ ∀ i, i < n → w.cell? ⟨b, o + i, none⟩ = some (.int .u8 ((l.getD i 0).toNat : Int)) := by
  obtain ⟨b, o, e, h1⟩ := h.cel hn
  exact ⟨b, o, e, fun i hi => by rw [h1 i hi, ints_get l i (by rw [h.len]; exact hi)]⟩
theorem dat_cel {w : World} {b : Nat} {l : List UInt8} (h : Cel w b l) (hz : l.length ≤ 1048576) : Dat w (some ⟨b, 0, none⟩) l.length l.length l :=
  ⟨rfl, Nat.le_refl _, by omega, fun _ => ⟨b, 0, rfl, fun i hi => by rw [Nat.zero_add, h i hi, ints_get l i hi]⟩⟩
theorem size5 (w : World) : (sizeOf 5).run Tryd.prog w = .ok 1 w := by kernel_rfl
theorem elem28 : Tryd.prog.elem 28 = 5 := by kernel_rfl
/-- data[k:]. -/
theorem cut_from {w : World} {a : Option Addr} {n c : Nat} {l : List UInt8} (h : Dat w a n c l) (k : Nat) (hk : k ≤ n) :
    ∃ a', (∀ W, (Instr.sliceAt 28 (.slice a n c) (some (.int .i64 k)) none none).run Tryd.prog W = .ok (.slice a' (n - k) (c - k)) W) ∧ Dat w a' (n - k) (c - k) (l.drop k) := by
  have hc := h.cap
  have hb := h.big
  refine ⟨if c = k then a else a.map (·.add (k * 1)), fun W => ?_, by rw [List.length_drop, h.len], by omega, by omega, fun hn => ?_⟩
  · have ht : Tryd.prog.underlying 28 = some (.slice (Tryd.prog.elem 28)) := by rw [elem28]; exact Tryd.underlying28
    rw [run_sliceAt_slice W 28 _ _ _ _ ht, run_slice_l (P := Tryd.prog) W 28 a n c ht .i64 k (by omega) (by omega), elem28, size5]
    simp [Result.andThen, sliced]
  · obtain ⟨b, o, rfl, h1⟩ := h.cel (by omega)
    refine ⟨b, o + k, by rw [if_neg (by omega)]; simp [add_cell], fun i hi => ?_⟩
    rw [Nat.add_assoc, h1 (k + i) (by omega), ints_get l _ (by rw [h.len]; omega), ints_get _ i (by rw [List.length_drop, h.len]; omega)]
    congr 4
    rw [List.getD_eq_getElem?_getD, List.getD_eq_getElem?_getD, List.getElem?_drop]
/-- data[:k]. -/
theorem cut_to {w : World} {a : Option Addr} {n c : Nat} {l : List UInt8} (h : Dat w a n c l) (k : Nat) (hk : k ≤ n) :
    (∀ W, (Instr.sliceAt 28 (.slice a n c) none (some (.int .i64 k)) none).run Tryd.prog W = .ok (.slice a k c) W) ∧ Dat w a k c (l.take k) := by
  have hc := h.cap
  have hb := h.big
  refine ⟨fun W => ?_, by rw [List.length_take, h.len]; omega, by omega, hb, fun hn => ?_⟩
  · have ht : Tryd.prog.underlying 28 = some (.slice (Tryd.prog.elem 28)) := by rw [elem28]; exact Tryd.underlying28
    rw [run_sliceAt_slice W 28 _ _ _ _ ht, run_slice_h (P := Tryd.prog) W 28 a n c ht .i64 k (by omega) (by omega), elem28, size5]
    by_cases e : c = 0
    · simp [Result.andThen, sliced, e]
    · simp [Result.andThen, sliced, e]
      cases a with
      | none => rfl
      | some x => simp [Addr.add]
  · obtain ⟨b, o, rfl, h1⟩ := h.cel (by omega)
    refine ⟨b, o, rfl, fun i hi => ?_⟩
    rw [h1 i (by omega), ints_get l _ (by rw [h.len]; omega), ints_get _ i (by rw [List.length_take, h.len]; omega)]
    congr 4
    rw [List.getD_eq_getElem?_getD, List.getD_eq_getElem?_getD, List.getElem?_take_of_lt hi]
def StrOut (r : List UInt8) (w : World) (e : Ending) (w' : World) : Prop := e = .returned (.string (strB r)) ∧ Chg Nowhere w w'
set_option maxHeartbeats 4000000 in
theorem html55 (hb : Nat) (hl : List UInt8) (a : Option Addr) (n c k : Nat) (l : List UInt8) (w : World) (hc : Cel w hb hl) (hd : Dat w a n c l) (hz : hl.length ≤ 1048576) (h0 : hl.head? = some 60) (h1 : (l.drop k).head? ≠ some 60) (hk : k ≤ n) :
    Calls Tryd.prog 55 #[.slice (some ⟨hb, 0, none⟩) hl.length hl.length, .slice a n c, .int .i64 k] w (StrOut [] w) := by
  obtain ⟨a', hs, hd'⟩ := cut_from hd k hk
  have hl1 : 0 < hl.length := by cases hl with
    | nil => cases h0
    | cons x t => simp
  have hc0 := hc 0 hl1
  have hg0 : (hl.getD 0 0).toNat = 60 := by cases hl with
    | nil => cases h0
    | cons x t => injection h0 with h0; subst h0; rfl
  rw [hg0] at hc0
  have hb1 := hd.big
  have hc1 := hd.cap
  by_cases hlt : n - k < hl.length + 1
  · have x1 : ((n - k : Nat) : Int) < (hl.length : Int) + 1 := by omega
    clear hc hd hd' h0 h1 hg0 hlt hc0 hl1
    go_enter Tryd.func55, Tryd.ntmps55
    go_wp2_with fail
    go_ret
    exact ⟨rfl, Chg.refl _ _⟩
  · have x1 : ¬ ((n - k : Nat) : Int) < (hl.length : Int) + 1 := by omega
    obtain ⟨b, o, rfl, h2⟩ := hd'.at (by omega)
    have h3 := h2 0 (by omega)
    rw [Nat.add_zero] at h3
    obtain ⟨x, hx⟩ : ∃ x, x = ((l.drop k).getD 0 0).toNat := ⟨_, rfl⟩
    rw [← hx] at h3
    have hxb : x < 256 := by rw [hx]; exact UInt8.toNat_lt _
    have hne : ((60 : Int) != (x : Int)) = true := by
      simp only [bne_iff_ne, ne_eq]
      intro e
      apply h1
      have hlen : 0 < (l.drop k).length := by rw [hd'.len]; omega
      cases hdl : l.drop k with
      | nil => rw [hdl] at hlen; exact absurd hlen (Nat.lt_irrefl 0)
      | cons y t =>
        rw [hdl] at hx
        have : y.toNat = 60 := by
          have : x = y.toNat := hx
          omega
        have : y = 60 := UInt8.toNat_inj.1 (by rw [this]; rfl)
        subst this
        rfl
    have hp : (0 : Int) < (hl.length : Int) := by omega
    have hp2 : (0 : Int) < ((n - k : Nat) : Int) := by omega
    clear hc hd hd' h0 h1 hg0 hlt hl1 h2 hx
    go_enter Tryd.func55, Tryd.ntmps55
    go_wp2_with fail
    go_loop [21] (fun i => i = .int .i64 0) (fun _ => 0)
    case atStart => rfl
    case round =>
      subst hrel
      go_wp2_with fail
      go_ret
      exact ⟨rfl, Chg.refl _ _⟩
set_option maxHeartbeats 4000000 in
theorem exact58 (p b : Nat) (hl ct : List UInt8) (a : Option Addr) (n c : Nat) (v2 : Value) (l r : List UInt8) (w : World) (hp : w.heap[p]? = some (.cells #[.slice (some ⟨b, 0, none⟩) hl.length hl.length, .string (strB ct)] 56 (0, 0))) (hc : Cel w b hl) (hd : Dat w a n c l) (hz : hl.length ≤ 1048576) (hr : r = if hl.isPrefixOf l then ct else []) :
    Calls Tryd.prog 58 #[.pointer (some ⟨p, 0, none⟩), .slice a n c, v2] w (StrOut r w) := by
  have c0 := cell_of_heap hp 0
  have c1 := cell_of_heap hp 1
  simp only [List.getElem?_toArray, List.getElem?_cons_succ, List.getElem?_cons_zero] at c0 c1
  have hpre := Tryd.bytes_HasPrefix_all a (some ⟨b, 0, none⟩) n c hl.length hl.length (ints l) (ints hl) w (by rw [ints_len, hd.len]) (ints_len hl) hd.cap hd.cel (dat_cel hc hz).cel
  rw [ints_bytes, ints_bytes] at hpre
  have Hpre := Lib.hid hpre
  have Hr := Lib.hid hr
  have lp := heap_lt hp
  clear hp hc hd hpre hr
  unfold Lib.hasPrefix at Hpre
  cases hb : hl.isPrefixOf l
  · rw [hb] at Hpre Hr
    clear hb
    go_enter Tryd.func58, Tryd.ntmps58
    go_wp2_with fail
    refine Hpre.out.mono ?_
    rintro e w' ⟨rfl, rfl⟩
    go_wp2_with fail
    go_ret
    exact ⟨by rw [Hr.out]; rfl, Chg.refl _ _⟩
  · rw [hb] at Hpre Hr
    clear hb
    go_enter Tryd.func58, Tryd.ntmps58
    go_wp2_with fail
    refine Hpre.out.mono ?_
    rintro e w' ⟨rfl, rfl⟩
    go_wp2_with fail
    go_ret
    exact ⟨by rw [Hr.out]; rfl, Chg.refl _ _⟩
end Go.Proofs.YtflpmhjfchpplaaDoor
