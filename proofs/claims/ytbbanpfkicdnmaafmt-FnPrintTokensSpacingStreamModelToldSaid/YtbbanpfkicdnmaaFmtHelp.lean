/-
  Proved: contracts of the law's helpers (texts, sizes, equality), rows of bytes and of tokens. No statement of the seat stands here.
-/
import Derived.Test.YtbbanpfkicdnmaaFmtList
import Derived.RegionTactic
import Derived.Deep.WholeRow
namespace Go.Proofs.YtbbanpfkicdnmaaFmt
open Go.RowKit Go.ChangeAt
set_option linter.unusedSimpArgs false
set_option linter.unusedVariables false
set_option maxRecDepth 100000
/-- The four texts of the law. -/
def txt (c : Nat) : ByteArray := if c % 4 = 0 then ⟨#[97]⟩ else if c % 4 = 1 then ⟨#[98, 99]⟩ else if c % 4 = 2 then ⟨#[114, 101, 100]⟩ else ⟨#[122, 122]⟩
theorem txt_size (c : Nat) : (txt c).size ≤ 3 := by
  unfold txt
  split
  · decide
  · split
    · decide
    · split <;> decide
def TxtOut (c : Nat) (w : World) (e : Ending) (w' : World) : Prop := e = .returned (.string (txt c)) ∧ w = w'
theorem text11 (c : Nat) (hc : c < 256) (w : World) : Calls Tryf.prog 11 #[.int .u8 c] w (TxtOut c w) := by
  have h4 : c % 4 = 0 ∨ c % 4 = 1 ∨ c % 4 = 2 ∨ c % 4 = 3 := by omega
  have ht : Int.tmod (c : Int) 4 = ((c % 4 : Nat) : Int) := by rw [Int.tmod_eq_emod_of_nonneg (by omega)]; omega
  have ht2 : (c : Int) % 4 = ((c % 4 : Nat) : Int) := by omega
  rcases h4 with h | h | h | h
  all_goals (
    have e : txt c = txt (c % 4) := by unfold txt; rw [Nat.mod_mod]
    unfold TxtOut
    rw [e]
    rw [h] at ht ht2 ⊢
    clear h e
    first | (change Int.tmod (c : Int) 4 = 0 at ht; change (c : Int) % 4 = 0 at ht2) | (change Int.tmod (c : Int) 4 = 1 at ht; change (c : Int) % 4 = 1 at ht2) | (change Int.tmod (c : Int) 4 = 2 at ht; change (c : Int) % 4 = 2 at ht2) | (change Int.tmod (c : Int) 4 = 3 at ht; change (c : Int) % 4 = 3 at ht2)
    go_enter Tryf.func11, Tryf.ntmps11
    go_wp2
    go_ret
    exact ⟨rfl, rfl⟩)
def Bound1 (n : Nat) (w : World) (e : Ending) (w' : World) : Prop := ∃ r : Bool, e = .returned (.bool r) ∧ w = w' ∧ (r = true → n ≤ 1048576)
theorem zb10 (a : Option Addr) (n c : Nat) (v1 v2 v3 v4 : Value) (w : World) : Calls Tryf.prog 10 #[.slice a n c, v1, v2, v3, v4] w (Bound1 n w) := by
  by_cases h1 : n ≤ 1048576
  · have x1 : ¬ (1048576 : Int) < (n : Int) := by omega
    go_enter Tryf.func10, Tryf.ntmps10
    go_wp2
    go_ret
    exact ⟨true, rfl, rfl, fun _ => h1⟩
  · have x1 : (1048576 : Int) < (n : Int) := by omega
    go_enter Tryf.func10, Tryf.ntmps10
    go_wp2
    go_ret
    exact ⟨false, rfl, rfl, fun h => by cases h⟩
def byteOf (l : List UInt8) (i : Nat) : Nat := (l.getD i 0).toNat
theorem byteOf_lt (l : List UInt8) (i : Nat) : byteOf l i < 256 := UInt8.toNat_lt _
def byteAt (l : List UInt8) (i : Nat) : Value := .int .u8 (byteOf l i : Int)
def EqOut (w : World) (e : Ending) (w' : World) : Prop := e = .returned (.bool true) ∧ ∃ q, w' = w.drewN q
set_option maxHeartbeats 4000000 in
theorem equal9 (a1 a2 : Option Addr) (c1 c2 : Nat) (T : List UInt8) (w : World) (hn : T.length ≤ 4000000000) (h1 : Reads w a1 T.length (byteAt T)) (h2 : Reads w a2 T.length (byteAt T)) :
    Calls Tryf.prog 9 #[.slice a1 T.length c1, .slice a2 T.length c2] w (EqOut w) := by
  have H1 := Lib.hid h1
  have H2 := Lib.hid h2
  clear h1 h2
  go_enter Tryf.func9, Tryf.ntmps9
  go_wp2
  go_loopw [5] (fun i wr => ∃ k : Nat, k ≤ T.length ∧ i = .int .i64 k ∧ ∃ q, wr = w.drewN q) (fun i _ => T.length - (intOf i).toNat)
  case atStart => exact ⟨0, by omega, rfl, 0, rfl⟩
  case round =>
    obtain ⟨k, hk, rfl, q0, rfl⟩ := hrel
    by_cases hlt : k < T.length
    · rcases H1.out with h0 | ⟨g, o, rfl, hR1⟩
      · omega
      rcases H2.out with h0 | ⟨g2, o2, rfl, hR2⟩
      · omega
      have d1 := hR1 k hlt
      have d2 := hR2 k hlt
      unfold byteAt at d1 d2
      generalize byteOf T k = q at d1 d2
      clear hR1 hR2
      have hx1 : (k : Int) < (T.length : Int) := by omega
      have hx0 : (0 : Int) ≤ (k : Int) := by omega
      go_wp2
      go_region
      go_wp2
      go_roundw
      case rel => exact ⟨k + 1, by omega, by go_num, _, rfl⟩
      case measure => simp [intOf]; omega
    · have hke : k = T.length := by omega
      have hx1 : ¬ (k : Int) < (T.length : Int) := by omega
      go_wp2
      go_ret
      exact ⟨rfl, q0, rfl⟩
theorem getD_of_lt {l : List UInt8} {i : Nat} (h : i < l.length) : l.getD i 0 = l[i] := by
  rw [List.getD_eq_getElem?_getD, List.getElem?_eq_getElem h]; rfl
theorem reads_own {w : World} {B : Nat} {T : List UInt8} {vo : Option Addr} {vc : Nat} (h : w.ownsRow B 5 1 (.slice vo T.length vc) T.length (Lib.byteCells T)) : Reads w vo T.length (byteAt T) := by
  rcases ownsRow_addr h with ⟨h1, h2⟩ | ⟨g, h1, _⟩
  · exact .inl h2.1
  · subst h1
    refine reads_of_cells fun i hi => ?_
    refine h.cells (g := g) rfl i _ ?_
    simp [Lib.byteCells, hi, byteAt, byteOf]
/-- The row that holds 'out', made since w. -/
structure RowAt (w wr : World) (vo : Option Addr) (L vc : Nat) (out : List UInt8) : Prop where
  len : L = out.length
  own : wr.ownsRow w.heap.size 5 1 (.slice vo L vc) L (Lib.byteCells out)
  chg : Chg Nowhere w wr
theorem RowAt.addr {w wr : World} {vo : Option Addr} {L vc : Nat} {out : List UInt8} (h : RowAt w wr vo L vc out) : ∀ k, InRow vo k → w.heap.size ≤ k := fun k hk => (inRow_own h.own k hk).1
theorem RowAt.more {w wr w1 w' : World} {vo vo' : Option Addr} {L vc vc' : Nat} {out new : List UInt8} (k : Nat) (hk : new.length = k) (h : RowAt w wr vo L vc out) (h1 : Chg Nowhere wr w1)
    (hown : w'.ownsRow w.heap.size 5 1 (.slice vo' (L + k) vc') (L + k) (Lib.byteCells out ++ Lib.byteCells new)) (hc : Chg (InRow vo) w1 w') : RowAt w w' vo' (L + k) vc' (out ++ new) := by
  subst hk
  refine ⟨by rw [List.length_append, h.len], ?_, (h.chg.trans h1 (fun _ _ h => h)).trans hc fun k hk hs => absurd (h.addr k hs) (by omega)⟩
  have hx : Lib.byteCells (out ++ new) = Lib.byteCells out ++ Lib.byteCells new := by simp [Lib.byteCells]
  rw [hx]; exact hown
theorem RowAt.start (w : World) (cap : Nat) (hm : cap ≤ maxLen) : RowAt w (w.alloc (.cells (madeCells #[.int .u8 0] cap) 5)) (some ⟨w.heap.size, 0, none⟩) 0 cap [] :=
  ⟨rfl, World.ownsRow_made w _ cap (Nat.le_refl _) hm (by rw [size_madeCells, Nat.mul_one]), (Chg.refl _ w).alloc _⟩
theorem RowAt.lit (w : World) (c : Nat) (hc : c < 256) (g : Nat) (hg : g = w.heap.size) : RowAt w (w.alloc (.cells #[.int .u8 (c : Int)] 5)) (some ⟨g, 0, none⟩) 1 1 [UInt8.ofNat c] := by
  subst hg
  refine ⟨rfl, ⟨by simp [Lib.byteCells], .inr ⟨w.heap.size, 1, #[.int .u8 (c : Int)], rfl, Nat.le_refl _, heap_alloc_at w _ _ rfl, Nat.le_refl _, by unfold maxLen; omega, rfl, ?_⟩⟩, (Chg.refl _ w).alloc _⟩
  have : (UInt8.ofNat c).toNat = c := by rw [UInt8.toNat_ofNat']; omega
  simp [Lib.byteCells, this]
theorem newBytes (wl : World) (l : List UInt8) (q : Nat) (hq : q = wl.heap.size) : ∀ a, (some ⟨q, 0, none⟩ : Option Addr) = some a → ∀ j u, (Lib.byteCells l)[j]? = some u → (wl.alloc (.cells (Lib.byteCells l).toArray 5)).cell? (a.add j) = some u :=
  fun a ha j u hu => cells_new wl (Lib.byteCells l).toArray 5 a (hq ▸ ha) j u hu
theorem oneBytes (l : List UInt8) : ∀ u ∈ Lib.byteCells l, u.oneCell' = true := by
  intro u hu
  simp [Lib.byteCells] at hu
  obtain ⟨x, _, rfl⟩ := hu
  rfl
theorem RowAt.nil {w wr : World} {vo : Option Addr} {L vc : Nat} {out : List UInt8} (h : RowAt w wr vo L vc out) (hv : vo = none) : L = 0 ∧ vc = 0 := by
  rcases ownsRow_addr h.own with ⟨h1, h2⟩ | ⟨g, h1, _⟩
  · exact ⟨h2.1, h2.2.1⟩
  · rw [hv] at h1; cases h1
theorem RowAt.src {w wr w' : World} {vo : Option Addr} {L vc : Nat} {out : List UInt8} (h : RowAt w wr vo L vc out) (hc : Chg Nowhere wr w') : ∀ a, vo = some a → ∀ j u, (Lib.byteCells out)[j]? = some u → w'.cell? (a.add j) = some u := by
  intro a hv j u hu
  rcases ownsRow_addr h.own with ⟨h1, h2⟩ | ⟨g, h1, _⟩
  · rw [hv] at h1; cases h1
  · rw [hv] at h1
    injection h1 with h1
    subst h1
    exact hc.cell (h.own.cells (g := g) (by rw [hv]; rfl) j u hu) (fun h => h)
/-- The cells of the first k tokens. -/
def toks (T : Nat → ByteArray) (lead : Bool) : Nat → List Value
  | 0 => []
  | k + 1 => toks T lead k ++ (tokAt T lead k).toList
theorem tok_size (T : Nat → ByteArray) (lead : Bool) (k : Nat) : (tokAt T lead k).toList.length = 7 := by
  unfold tokAt
  split <;> rfl
theorem toks_length (T : Nat → ByteArray) (lead : Bool) (k : Nat) : (toks T lead k).length = k * 7 := by
  induction k with
  | zero => rfl
  | succ k ih => rw [toks, List.length_append, ih, tok_size, Nat.add_mul, Nat.one_mul]
theorem toks_get (T : Nat → ByteArray) (lead : Bool) {k i q : Nat} (hi : i < k) (hq : q < 7) : (toks T lead k)[i * 7 + q]? = (tokAt T lead i)[q]? := by
  induction k with
  | zero => omega
  | succ k ih =>
    rw [toks]
    by_cases hk : i < k
    · have : i * 7 + q < k * 7 := by omega
      rw [List.getElem?_append_left (by rw [toks_length]; exact this)]
      exact ih hk
    · obtain rfl : i = k := by omega
      rw [List.getElem?_append_right (by rw [toks_length]; omega), toks_length, show i * 7 + q - i * 7 = q by omega]
      simp
/-- The row of the first L tokens, made since w. -/
structure TokRow (w wr : World) (T : Nat → ByteArray) (lead : Bool) (vo : Option Addr) (L vc : Nat) : Prop where
  own : wr.ownsRow w.heap.size 40 7 (.slice vo L vc) L (toks T lead L)
  chg : Chg Nowhere w wr
theorem TokRow.more {w wr w1 w' : World} {T : Nat → ByteArray} {lead : Bool} {vo vo' : Option Addr} {L vc vc' : Nat} {new : List Value} (h : TokRow w wr T lead vo L vc) (h1 : Chg Nowhere wr w1) (hn : new = (tokAt T lead L).toList)
    (hown : w'.ownsRow w.heap.size 40 7 (.slice vo' (L + 1) vc') (L + 1) (toks T lead L ++ new)) (hc : Chg (InRow vo) w1 w') : TokRow w w' T lead vo' (L + 1) vc' := by
  subst hn
  exact ⟨hown, (h.chg.trans h1 (fun _ _ h => h)).trans hc fun k hk hs => absurd (inRow_own h.own k hs).1 (by omega)⟩
theorem TokRow.list {w wr w' : World} {T : Nat → ByteArray} {lead : Bool} {g L vc b : Nat} (h : TokRow w wr T lead (some ⟨g, 0, none⟩) L vc) (hc : Chg Nowhere wr w') (hb : g ≠ b) : ListAt b none g L T lead w' := by
  refine ⟨fun i hi q hq => ?_, hb, by rintro ⟨x, hx, _⟩; cases hx⟩
  obtain ⟨v, hv⟩ := tok_some T lead i q hq
  have h1 := h.own.cells (g := g) rfl (i * 7 + q) v (by rw [toks_get T lead hi hq]; exact hv)
  rw [add_cell] at h1
  simp only [Nat.zero_add] at h1
  rw [hv]
  exact hc.cell h1 (fun h => h)
theorem TokRow.place {w wr : World} {T : Nat → ByteArray} {lead : Bool} {vo : Option Addr} {L vc : Nat} (h : TokRow w wr T lead vo L vc) (hL : 0 < L) : ∃ g, vo = some ⟨g, 0, none⟩ ∧ w.heap.size ≤ g ∧ g < wr.heap.size := by
  rcases ownsRow_addr h.own with ⟨h1, h2⟩ | ⟨g, h1, h2, h3⟩
  · omega
  · exact ⟨g, h1, h2, h3⟩
theorem info40 : (Tryf.prog.info? 40).map (fun i => (i.zero, i.size, i.bytes)) = some (some (.agg #[.pointer none, .string ⟨#[]⟩, .int .i32 0, .int .u32 0, .int .u16 0, .int .u8 0, .int .u8 0]), 7, 40) := by kernel_rfl
def zero40 : Array Value := #[.pointer none, .string ⟨#[]⟩, .int .i32 0, .int .u32 0, .int .u16 0, .int .u8 0, .int .u8 0]
theorem make24 (n : Nat) (hn : n ≤ 1048576) (W : World) : (Instr.makeSlice 24 (.int .i64 0) (.int .i64 (2 * (n : Int)))).run Tryf.prog W = .ok (.slice (some ⟨W.heap.size, 0, none⟩) 0 (2 * n)) (W.alloc (.cells (madeCells zero40 (2 * n * 7)) 40)) := by
  obtain ⟨i0, hi, hz0, hz1, hz2⟩ := info_parts info40
  have h := run_make (P := Tryf.prog) W 24 40 i0 _ Tryf.underlying24 hi hz0 .i64 .i64 0 (2 * (n : Int)) (by omega) (by omega) (by rw [hz2]; omega) (by omega)
  rw [h, hz1]
  have e : (2 * (n : Int)).toNat = 2 * n := by omega
  simp [Value.cells, zero40, e]
theorem TokRow.start (w : World) (T : Nat → ByteArray) (lead : Bool) (n : Nat) (hn : n ≤ 1048576) : TokRow w (w.alloc (.cells (madeCells zero40 (2 * n * 7)) 40)) T lead (some ⟨w.heap.size, 0, none⟩) 0 (2 * n) :=
  ⟨World.ownsRow_made w _ (2 * n) (Nat.le_refl _) (by unfold maxLen; omega) (by rw [size_madeCells]), (Chg.refl _ w).alloc _⟩
end Go.Proofs.YtbbanpfkicdnmaaFmt
