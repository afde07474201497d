/-
  Proved: contracts of bytes.LastIndexByte, bytes.IndexByte, parseSmallInt, zzHasPointOrExponent and printBytes at rows of bytes. No statement of the seat stands here.
-/
import Derived.Test.YtmlgfhdjdmfdbaaDoorNb
import Derived.Test.YtmlgfhdjdmfdbaaDoorShelf2
namespace Go.Proofs.YtmlgfhdjdmfdbaaDoor
open Go.RowKit Go.ChangeAt
set_option linter.unusedSimpArgs false
set_option linter.unusedVariables false
set_option maxRecDepth 100000
def nb (l : List UInt8) (j : Nat) : Nat := (l.getD j 0).toNat
theorem nb_lt (l : List UInt8) (j : Nat) : nb l j < 256 := UInt8.toNat_lt _
theorem Row.nb {B g off cap : Nat} {l : List UInt8} {w : World} (h : Row B g off cap l w) (j : Nat) (hj : j < l.length) : w.cell? ⟨g, off + j, none⟩ = some (.int .u8 ((nb l j : Nat) : Int)) := h.at' j hj
def Same' (v : Value) (w : World) (e : Ending) (w' : World) : Prop := e = .returned v ∧ w' = w
/-- r is the last place of c in l, or -1. -/
def LastIs (l : List UInt8) (c : Nat) (r : Int) : Prop := (r = -1 ∧ ∀ j, j < l.length → nb l j ≠ c) ∨ ∃ k : Nat, r = k ∧ k < l.length ∧ nb l k = c ∧ ∀ j, k < j → j < l.length → nb l j ≠ c
set_option maxHeartbeats 4000000 in
theorem last19 (B g off cap : Nat) (l : List UInt8) (w : World) (hR : Row B g off cap l w) (hl : l.length ≤ 100000) (c : Nat) (r : Int) (hr : LastIs l c r) :
    Calls Tryd.prog 19 #[.slice (some ⟨g, off, none⟩) l.length cap, .int .u8 (c : Int)] w (Same' (.int .i64 r) w) := by
  have H := Lib.hid hR
  have Hr := Lib.hid hr
  clear hR hr
  have hlc := H.out.len
  have hcb := H.out.capb
  go_enter Tryd.func19, Tryd.ntmps19
  go_wp2_with fail
  go_loopw [5] (fun c5 wr => wr = w ∧ ∃ p : Nat, p ≤ l.length ∧ c5 = .int .i64 ((p : Int) - 1) ∧ ∀ j, p ≤ j → j < l.length → nb l j ≠ c) (fun c5 _ => (intOf c5 + 1).toNat)
  case atStart => exact ⟨rfl, l.length, Nat.le_refl _, rfl, fun j h1 h2 => by omega⟩
  case round =>
    obtain ⟨rfl, p, hp, rfl, hall⟩ := hrel
    have Hall := Lib.hid hall
    clear hall
    cases p with
    | zero =>
      have hneg : ((0 : Int) ≤ ((0 : Nat) : Int) - 1) = False := eq_false (by omega)
      have hre : r = -1 := by
        rcases Hr.out with ⟨h, _⟩ | ⟨k, h1, h2, h3, _⟩
        · exact h
        · exact absurd h3 (Hall.out k (by omega) h2)
      have Hre := Lib.hid hre
      clear hre
      go_wp2_with fail
      go_ret
      exact ⟨congrArg (fun z => Ending.returned (Value.int .i64 z)) Hre.out.symm, rfl⟩
    | succ q =>
      have e : (((q + 1 : Nat) : Int) - 1) = (q : Int) := by omega
      rw [e]
      have hcell := H.out.nb q (by omega)
      have hx0 : (0 : Int) ≤ (q : Int) := by omega
      have hx1 : (q : Int) < (l.length : Int) := by omega
      have hgl := H.out.lt
      obtain ⟨x, hx⟩ : ∃ x, nb l q = x := ⟨_, rfl⟩
      rw [hx] at hcell
      by_cases hxc : x = c
      · have hq : ((x : Int) == (c : Int)) = true := by simp; omega
        have hre : r = (q : Int) := by
          rcases Hr.out with ⟨_, h⟩ | ⟨k, h1, h2, h3, h4⟩
          · exact absurd (hx.trans hxc) (h q (by omega))
          · have hkq : k ≤ q := by
              by_cases h : k ≤ q
              · exact h
              · exact absurd h3 (Hall.out k (by omega) h2)
            by_cases h : k < q
            · exact absurd (hx.trans hxc) (h4 q h (by omega))
            · omega
        have Hre := Lib.hid hre
        clear hre hx hxc
        go_wp2_with fail
        go_ret
        exact ⟨congrArg (fun z => Ending.returned (Value.int .i64 z)) Hre.out.symm, rfl⟩
      · have hq : ((x : Int) == (c : Int)) = false := by simp; omega
        have Hn : Hid (∀ j, q ≤ j → j < l.length → nb l j ≠ c) := Lib.hid fun j h1 h2 => by
          by_cases h : j = q
          · subst h; rw [hx]; exact hxc
          · exact Hall.out j (by omega) h2
        clear hx hxc
        go_wp2_with fail
        go_roundw
        case rel => exact ⟨trivial, q, by omega, rfl, Hn.out⟩
        case measure => simp [intOf]
theorem last12 (B g off cap : Nat) (l : List UInt8) (w : World) (hR : Row B g off cap l w) (hl : l.length ≤ 100000) (c : Nat) (r : Int) (hr : LastIs l c r) :
    Calls Tryd.prog 12 #[.slice (some ⟨g, off, none⟩) l.length cap, .int .u8 (c : Int)] w (Same' (.int .i64 r) w) := by
  have h := last19 B g off cap l w hR hl c r hr
  go_enter Tryd.func12, Tryd.ntmps12
  go_wp2_with fail
  refine h.mono ?_
  rintro ex w1 ⟨rfl, rfl⟩
  go_wp2_with fail
  go_ret
  exact ⟨rfl, rfl⟩
theorem bytesOf_ints (l : List UInt8) : Lib.bytesOf (l.map fun b => (b.toNat : Int)) = l := by
  unfold Lib.bytesOf
  rw [List.map_map]
  conv => rhs; rw [← List.map_id l]
  apply List.map_congr_left
  intro x _
  simp
theorem idx13 (B g off cap : Nat) (l : List UInt8) (w : World) (hR : Row B g off cap l w) (c : Int) :
    Calls Tryd.prog 13 #[.slice (some ⟨g, off, none⟩) l.length cap, .int .u8 c] w (Same' (.int .i64 (Lib.indexByte l c.toNat.toUInt8)) w) := by
  have h := Tryd.bytes_IndexByte g off l.length cap (l.map fun b => (b.toNat : Int)) c w (by simp) (fun i hi => by
    rw [hR.at' i hi]
    simp [List.getD_eq_getElem?_getD, List.getElem?_map, List.getElem?_eq_getElem hi])
  rw [bytesOf_ints] at h
  exact h
theorem index_app : ∀ (a : List UInt8) (c : UInt8) (r : List UInt8), (∀ x ∈ a, x ≠ c) → Lib.indexByte (a ++ c :: r) c = (a.length : Int)
  | [], c, r, _ => by simp [Lib.indexByte]
  | x :: a, c, r, h => by
    have h1 := index_app a c r (fun y hy => h y (List.mem_cons_of_mem _ hy))
    have h2 : (x == c) = false := beq_eq_false_iff_ne.2 (h x (by simp))
    have h3 : (((a.length : Nat) : Int) == -1) = false := beq_eq_false_iff_ne.2 (by omega)
    simp only [List.cons_append, Lib.indexByte, h2, h1, h3, List.length_cons]
    simp
theorem index_none : ∀ (a : List UInt8) (c : UInt8), (∀ x ∈ a, x ≠ c) → Lib.indexByte a c = -1
  | [], c, _ => rfl
  | x :: a, c, h => by
    have h1 := index_none a c (fun y hy => h y (List.mem_cons_of_mem _ hy))
    have h2 : (x == c) = false := beq_eq_false_iff_ne.2 (h x (by simp))
    simp [Lib.indexByte, h2, h1]
def SomeB (w : World) (e : Ending) (w' : World) : Prop := ∃ r : Bool, e = .returned (.bool r) ∧ w' = w
set_option maxHeartbeats 4000000 in
theorem has16a (B g off cap : Nat) (l : List UInt8) (w : World) (hR : Row B g off cap l w) (hl : l.length ≤ 100000) :
    Calls Tryd.prog 16 #[.slice (some ⟨g, off, none⟩) l.length cap] w (SomeB w) := by
  have H := Lib.hid hR
  clear hR
  have hlc := H.out.len
  have hcb := H.out.capb
  go_enter Tryd.func16, Tryd.ntmps16
  go_wp2_with fail
  go_loopw [7] (fun c7 wr => wr = w ∧ ∃ p : Nat, p ≤ l.length ∧ c7 = .int .i64 (p : Int)) (fun c7 _ => l.length - (intOf c7).toNat)
  case atStart => exact ⟨rfl, 0, by omega, rfl⟩
  case round =>
    obtain ⟨rfl, p, hp, rfl⟩ := hrel
    by_cases hlt : p < l.length
    · have hcell := H.out.nb p hlt
      have hx0 : (0 : Int) ≤ (p : Int) := by omega
      have hx1 : (p : Int) < (l.length : Int) := by omega
      have hgl := H.out.lt
      obtain ⟨x, hx⟩ : ∃ x, nb l p = x := ⟨_, rfl⟩
      rw [hx] at hcell
      clear hx
      have h3 : ((x : Int) == 46) = true ∨ (((x : Int) == 46) = false ∧ ((x : Int) == 101) = true) ∨ (((x : Int) == 46) = false ∧ ((x : Int) == 101) = false ∧ ((x : Int) == 120) = true) ∨ (((x : Int) == 46) = false ∧ ((x : Int) == 101) = false ∧ ((x : Int) == 120) = false) := by
        simp only [beq_iff_eq, beq_eq_false_iff_ne, ne_eq]
        omega
      rcases h3 with h1 | ⟨h1, h2⟩ | ⟨h1, h2, h3⟩ | ⟨h1, h2, h3⟩
      · go_wp2_with fail
        go_ret
        exact ⟨true, rfl, rfl⟩
      · go_wp2_with fail
        go_ret
        exact ⟨true, rfl, rfl⟩
      · go_wp2_with fail
        go_ret
        exact ⟨true, rfl, rfl⟩
      · go_wp2_with fail
        go_roundw
        case rel => exact ⟨trivial, p + 1, by omega, by go_num⟩
        case measure => simp [intOf]; omega
    · obtain rfl : p = l.length := by omega
      go_wp2_with fail
      go_ret
      exact ⟨false, rfl, rfl⟩
/-- A printer whose text has n bytes. -/
def Pj (b n : Nat) (w : World) : Prop := ∃ cs vo vc, w.heap[b]? = some (.cells cs 77 (0, 0)) ∧ 135 ≤ cs.size ∧ cs[9]? = some (.slice vo n vc)
def PrintOut (b n : Nat) (w : World) (e : Ending) (w' : World) : Prop := e = .returned (.tuple #[]) ∧ Pj b n w' ∧ Chg (fun k => k = b) w w'
set_option maxHeartbeats 4000000 in
theorem print10a (b g off cap : Nat) (mn : Bool) (l : List UInt8) (w : World) (hP : Pn b mn w) (hR : ∀ j u, (Lib.byteCells l)[j]? = some u → w.cell? ⟨g, off + j, none⟩ = some u) (hl : l.length ≤ 100000) :
    Calls Tryd.prog 10 #[.pointer (some ⟨b, 0, none⟩), .slice (some ⟨g, off, none⟩) l.length cap] w (PrintOut b l.length w) := by
  obtain ⟨i0, hi, hz0, hz1, hz2⟩ := info_parts info5
  have hjs := hP.js
  have hlt := hP.lt
  obtain ⟨cs, hb, hsz, h9, _⟩ := hP.blk
  have Hb := Lib.hid hb
  have HR := Lib.hid hR
  clear hb hR hP
  go_enter Tryd.func10, Tryd.ntmps10
  go_wp2_with (at_builtin; go_loud (refine wpList_append_fresh _ rfl (.tmp 8) (.tmp 9) 26 rfl w.heap.size 5 i0 _ 1 1 Tryd.underlying26 hi hz0 hz1 hz2 rfl (by decide) none 0 0 [] rfl ⟨rfl, .inl ⟨rfl, rfl⟩⟩ (some ⟨g, off, none⟩) l.length cap (Lib.byteCells l) rfl (by rw [byteCells_len, Nat.mul_one]) (by simp) (fun x hx => by injection hx with hx; subst hx; intro j u hj; rw [add_cell]; exact HR.out j u hj) (oneAll_bytes l) (by unfold maxLen; omega) (by omega) (Nat.le_refl _) ?_; intro vo' vc' w1 hown1 hg1 hf1; have hb1 := hg1.heap Hb.out (fun hh => by obtain ⟨x, hx, _⟩ := hh; cases hx); have c1 := cell_of_heap hb1 9; have z1 := frozen_of_heap hb1 9; have s1 := heap_lt hb1; rw [h9] at c1; have Hg1 := Lib.hid hg1; have Hb1 := Lib.hid hb1; clear hg1 hown1 hf1 hb1))
  go_end0
  refine ⟨rfl, ⟨_, vo', vc', heap_setCell Hb1.out 9 _, by simpa using hsz, ?_⟩, Chg.setCell (S := fun k => k = b) (p := ⟨b, 9, none⟩) (Hg1.out.mono (fun k hk hs => by obtain ⟨x, hx, _⟩ := hs; cases hx)) (fun _ => rfl) _⟩
  rw [Array.getElem?_setIfInBounds, if_pos rfl, if_pos (by omega)]
theorem print10 (b g off cap : Nat) (mn : Bool) (l : List UInt8) {n : Nat} (hn : n = l.length) (w : World) (hP : Pn b mn w) (hR : ∀ j u, (Lib.byteCells l)[j]? = some u → w.cell? ⟨g, off + j, none⟩ = some u) (hl : n ≤ 100000) :
    Calls Tryd.prog 10 #[.pointer (some ⟨b, 0, none⟩), .slice (some ⟨g, off, none⟩) n cap] w (PrintOut b n w) := by
  subst hn
  exact print10a b g off cap mn l w hP hR hl
theorem has16 (B g off cap : Nat) (l : List UInt8) {n : Nat} (hn : n = l.length) (w : World) (hR : Row B g off cap l w) (hl : n ≤ 100000) :
    Calls Tryd.prog 16 #[.slice (some ⟨g, off, none⟩) n cap] w (SomeB w) := by
  subst hn
  exact has16a B g off cap l w hR hl
end Go.Proofs.YtmlgfhdjdmfdbaaDoor
