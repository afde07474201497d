/-
  Proved: contract of printTokens at a flat list of identifiers and commas. No statement of the seat stands here.
-/
import Derived.Test.YtbbanpfkicdnmaaFmtLoop2
import Derived.Deep.LoopGhost
namespace Go.Proofs.YtbbanpfkicdnmaaFmt
open Go.RowKit Go.ChangeAt
set_option linter.unusedSimpArgs false
set_option linter.unusedVariables false
set_option maxRecDepth 1000000
set_option maxHeartbeats 32000000 in
theorem listMin (B b tb n N cap : Nat) (T : Nat → ByteArray) (lead dec : Bool) (ind : Int) (out : List UInt8) (w : World) (vo : Option Addr) (HN : Hid (N = 2 * n + 1)) (h : Pr B b true false vo out w) (hl : ListAt b vo tb N T lead w) (hn2 : n ≤ 65536)
    (hi1 : ind ≤ 65536) (hi0 : -65536 ≤ ind) (HT : Hid (∀ i, Plain (T i))) (Hs : Hid (∀ i, (T i).size ≤ 8)) (ho : out.length ≤ 1000000) (hb : ∀ k, k ≤ N → (textTo (sepOf false ind) T lead k).length ≤ 100000000) :
    Calls Tryf.prog 13 #[.pointer (some ⟨b, 0, none⟩), .slice (some ⟨tb, 0, none⟩) N cap, .agg #[.int .i32 ind, .int .u8 0, .bool dec]] w (WrtF B b true false vo (out ++ textTo (sepOf false ind) T lead N) w) := by
  have hN2 : N = 2 * n + 1 := HN.out
  have p6 := h.cell 6 (by decide)
  have p3 := h.cell 3 (by decide)
  have p9 := h.cell 9 (by decide)
  simp [pc] at p6 p3 p9
  have hbs := h.lt_size
  have l0 := hl.tok 0 (by omega) 6 (by decide)
  simp [tokAt, tokCells] at l0
  have hgs : tb < w.heap.size := World.block_lt_of_cell? w _ (hl.tok 0 (by omega) 0 (by decide))
  obtain ⟨wv, hwv⟩ : ∃ wv : Int, wv = if lead = true then 1 else 0 := ⟨_, rfl⟩
  rw [← hwv] at l0
  have f1 : (bits .and .u8 wv 1 != 0) = lead := by rw [hwv]; cases lead <;> decide
  have Hwv := Lib.hid hwv
  have H0 : Hid (Wrote b vo vo w (w.alloc (.cells #[.int .i32 ind, .int .u8 0, .bool dec] 69))) := Lib.hid ((Wrote.refl b vo w).alloc _)
  have Hbx : Hid ((w.alloc (.cells #[.int .i32 ind, .int .u8 0, .bool dec] 69)).heap[w.heap.size]? = some (.cells #[.int .i32 ind, .int .u8 0, .bool dec] 69)) := Lib.hid (heap_alloc_at w _ _ rfl)
  have hrow := h.addr
  have Hrow := Lib.hid hrow
  have HL0 : Hid (ListAt b vo tb N T lead (w.alloc (.cells #[.int .i32 ind, .int .u8 0, .bool dec] 69))) := Lib.hid (hl.after H0.out hgs)
  have Hp0 : Hid (Pr B b true false vo out (w.alloc (.cells #[.int .i32 ind, .int .u8 0, .bool dec] 69))) := Lib.hid (h.wrote ((Chg.refl Nowhere w).alloc _))
  have Hb := Lib.hid hb
  have hNp : (0 : Int) < (N : Int) := by omega
  have hNs : N ≤ 131073 := by omega
  have Hodd : Hid (N % 2 = 1) := Lib.hid (by omega)
  have hg0 : tb < (w.alloc (.cells #[.int .i32 ind, .int .u8 0, .bool dec] 69)).heap.size := by simp; omega
  have Hg0 := Lib.hid hg0
  clear h hl hb hwv hrow hN2 hg0
  go_enter Tryf.func13, Tryf.ntmps13
  go_wp2_with fail
  refine loop2 B b tb N cap w.heap.size T lead true false 0 ind out (w.alloc (.cells #[.int .i32 ind, .int .u8 0, .bool dec] 69)) vo (.inl ⟨rfl, rfl⟩) Hodd hNs hi1 hi0 HL0 HT Hs ho Hb.out (Lib.hid ⟨_, Hbx.out⟩) (by omega) (Lib.hid fun hh => by have := (Hrow.out _ hh).2; omega) Hg0.out _ _ ⟨0, rfl, rfl, rfl, rfl, rfl, rfl, rfl, rfl, rfl, rfl, rfl, by omega, vo, by simpa only [textTo, List.append_nil] using Hp0.out, Wrote.refl b vo _⟩ _ ?_
  rintro ay wy ⟨hd, hsz, h7, vy, hpy, hwy⟩
  obtain ⟨x, rfl⟩ := lit7 ay hd hsz h7
  have Hpy := Lib.hid hpy
  have Hwy := Lib.hid hwy
  clear hpy hwy hd hsz h7
  go_wp2_with fail
  go_ret
  exact ⟨rfl, vy, Hpy.out, H0.out.trans Hwy.out⟩
end Go.Proofs.YtbbanpfkicdnmaaFmt
