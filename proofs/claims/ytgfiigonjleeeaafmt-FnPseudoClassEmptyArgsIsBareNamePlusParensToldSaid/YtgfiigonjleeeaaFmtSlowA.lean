/-
  Proved: contract of the css printer's printIdent (normal, whitespace may be discarded) where the name must be escaped from its first character on. No statement of the seat stands here.
-/
import Derived.Test.YtgfiigonjleeeaaFmtEsc27
import Derived.Laws.RangeAny
import Derived.Lib.OthersKept
import Derived.Scope
namespace Go.Proofs.YtgfiigonjleeeaaFmt
open Go.RowKit Go.ChangeAt
open Go.Extern.Stop Go.Stop Go.Extern
open Go.Lib (run_next_any_at run_next_end_at iterAt_heap iterAt_other iterAt_size below_iterAt)
set_option linter.unusedSimpArgs false
set_option linter.unusedVariables false
set_option maxRecDepth 100000
theorem Chg.iterAt {S : Nat → Prop} {a w : World} (h : Chg S a w) {k : Nat} (hk : a.heap.size ≤ k) (s : ByteArray) (pos : Nat) : Chg S a (w.iterAt k s pos) :=
  h.trans (S' := fun j => j = k) (b := w) ⟨rfl, rfl, rfl, by rw [iterAt_size]; exact Nat.le_refl _, fun i hi hn => iterAt_other w k i s pos hn⟩ (fun j hj h => by omega)
theorem chg_iterAt (w : World) (k : Nat) (s : ByteArray) (pos : Nat) : Chg (fun j => j = k) w (w.iterAt k s pos) :=
  ⟨rfl, rfl, rfl, by rw [iterAt_size]; exact Nat.le_refl _, fun i hi hn => iterAt_other w k i s pos hn⟩
theorem slowT_step (F : Interp) (a init : Bool) (t : ByteArray) (pos : Nat) (h : pos < t.size) : slowT F a init t pos = escT F (escKind a init pos (Utf8.decode t pos).1) (Utf8.decode t pos).1 (t.extract pos t.size) ++ slowT F a init t (pos + (Utf8.decode t pos).2) := by
  rw [slowT, dif_pos h]
theorem slowT_end (F : Interp) (a init : Bool) (t : ByteArray) (pos : Nat) (h : ¬ pos < t.size) : slowT F a init t pos = [] := by
  rw [slowT, dif_neg h]
/-- Where the slow path stands: the iterator in block K at pos; what is written and what is still to come make up the whole. -/
structure At (F : Interp) (B b K : Nat) (m a init : Bool) (vo : Option Addr) (out : List UInt8) (t : ByteArray) (w : World) (pos : Nat) (vo' : Option Addr) (out' : List UInt8) (wr : World) : Prop where
  it : wr.heap[K]? = some (.stringIter t pos)
  pr : Pr B b m a vo' out' wr
  wr : Wrote b vo vo' w wr
  sum : out' ++ slowT F a init t pos = out ++ slowT F a init t 0
  len : out'.length ≤ out.length + 101 * pos
  off : ¬ InRow vo' K
def AtLoop (F : Interp) (B b K : Nat) (m a init : Bool) (vo : Option Addr) (out : List UInt8) (t : ByteArray) (w wr : World) : Prop := ∃ pos vo' out', pos ≤ t.size + 4 ∧ At F B b K m a init vo out t w pos vo' out' wr
theorem At.next {F : Interp} {B b K : Nat} {m a init : Bool} {vo : Option Addr} {out : List UInt8} {t : ByteArray} {w : World} {pos : Nat} {vo' : Option Addr} {out' : List UInt8} {wr : World} (h : At F B b K m a init vo out t w pos vo' out' wr) (hK : w.heap.size ≤ K) (hKb : K ≠ b) (p : Nat) :
    (wr.iterAt K t p).heap[K]? = some (.stringIter t p) ∧ Pr B b m a vo' out' (wr.iterAt K t p) ∧ Wrote b vo vo' w (wr.iterAt K t p) :=
  ⟨iterAt_heap wr K t pos p h.it, h.pr.kept (chg_iterAt wr K t p) (fun e => hKb e.symm) (fun k hk e => h.off (e ▸ hk)), ⟨h.wr.chg.iterAt hK t p, h.wr.place⟩⟩
set_option maxHeartbeats 16000000 in
theorem slow_true (F : Interp) (B b : Nat) (m a : Bool) (vo : Option Addr) (out : List UInt8) (t : ByteArray) (w : World) (hw : wouldB t = false) (hT : Lib.Utf8Tabs 1 2 w) (hF : F.answers w.tape) (hOk : HexOk F) (h : Pr B b m a vo out w) (ho : out.length ≤ 130000000000) (ht : t.size ≤ 600000) :
    Calls Tryf.prog 22 #[.pointer (some ⟨b, 0, none⟩), .string t, .int .u8 0, .int .u8 1] w (Wrt B b m a vo (out ++ slowT F a true t 0) w) := by
  have hbs := h.lt_size
  have Hadr := Lib.hid h.addr
  have Hp := Lib.hid h
  have hcall := would_any t w hT
  rw [hw] at hcall
  have HF := Lib.hid hF
  have HOk := Lib.hid hOk
  clear h hT hw hF hOk
  go_enter Tryf.func22, Tryf.ntmps22
  go_wp2_with fail
  refine hcall.mono ?_
  rintro ex w1 ⟨rfl, hc⟩
  have Hc := Lib.hid hc
  clear hc hcall
  have hs1 := Hc.out.size
  go_wp2_with fail
  have h0 : AtLoop F B b w1.heap.size m a true vo out t w (w1.iter t 0) := ⟨0, vo, out, by omega, ⟨World.iter_heap w1 t 0, (Hp.out.wrote Hc.out).wrote ((Chg.refl Nowhere w1).alloc _), ⟨(Hc.out.mono (fun _ _ h => h.elim)).alloc _, .inl rfl⟩, rfl, by omega, fun hh => by have := (Hadr.out _ hh).2; omega⟩⟩
  have H0 := Lib.hid h0
  clear h0
  go_loopw [13, 14, 15, 16] (fun _ _ _ _ wr => AtLoop F B b w1.heap.size m a true vo out t w wr) (fun _ _ _ _ wr => t.size + 5 - wr.iterPos w1.heap.size)
  case atStart => exact H0.out
  case round =>
    obtain ⟨pos, vo1, out1, hpos, hat⟩ := hrel
    revert wr
    intro wo hat
    have hmu : wo.iterPos w1.heap.size = pos := by unfold World.iterPos; rw [hat.it]
    have hKs := heap_lt hat.it
    by_cases hlt : pos < t.size
    · have hnx : ∀ ty, (Instr.next (.pointer (some ⟨w1.heap.size, 0, none⟩)) true ty).run Tryf.prog wo = _ := fun ty => run_next_any_at wo w1.heap.size t pos ty hat.it hlt
      obtain ⟨hit2, hp2, hw2⟩ := hat.next hs1 (by omega) (pos + (Utf8.decode t pos).2)
      have hmu2 : (wo.iterAt w1.heap.size t (pos + (Utf8.decode t pos).2)).iterPos w1.heap.size = pos + (Utf8.decode t pos).2 := by unfold World.iterPos; rw [hit2]
      have hwd := width_pos t pos hlt
      have hwl := width_le t pos
      have hrl := rune_le t pos
      have hrv := rune_valid t pos
      have hst := slowT_step F a true t pos hlt
      have hlen := hat.len
      have hsum := hat.sum
      rw [hst, ← List.append_assoc] at hsum
      have hoff := hat.off
      generalize hq : wo.iterAt w1.heap.size t (pos + (Utf8.decode t pos).2) = w2 at hnx hit2 hp2 hw2 hmu2
      generalize hrr : ((Utf8.decode t pos).1 : Nat) = R at hnx hrl hrv hsum
      generalize hww : ((Utf8.decode t pos).2 : Nat) = W at hit2 hwd hwl hsum hmu2
      have hcell := hp2.cell 7 (by decide)
      simp [pc] at hcell
      have hbs2 := hp2.lt_size
      have Hput := Lib.hid fun k hk => put_any F B b R k hk m a vo1 out1 (t.extract pos t.size) w2 hrl hrv (by rw [hw2.chg.tape]; exact HF.out) HOk.out hp2 (by omega)
      have hcont := fun w' => cont_any R w'
      have hx0 : (0 : Int) ≤ (pos : Int) := by omega
      have hx1 : (pos : Int) ≤ (t.size : Int) := by omega
      have Hfin : ∀ k (w3 : World) vo3, escKind a true pos R = k → Pr B b m a vo3 (out1 ++ escT F k R (t.extract pos t.size)) w3 → Wrote b vo1 vo3 w2 w3 → AtLoop F B b w1.heap.size m a true vo out t w w3 := fun k w3 vo3 hk hp hw => by
        subst hk
        have hl := escT_len HOk.out (escKind a true pos R) R (t.extract pos t.size) hrl
        have hKn : ¬ InRow vo1 w1.heap.size := hoff
        exact ⟨pos + W, vo3, _, by omega, ⟨hw.heap (by omega) hKn hit2, hp, hw2.trans hw, hsum, by rw [List.length_append]; omega, hw.out hKn (heap_lt hit2)⟩⟩
      have Hmeas : ∀ (w3 : World) vo3, Wrote b vo1 vo3 w2 w3 → w3.iterPos w1.heap.size = pos + W := fun w3 vo3 hw => by
        unfold World.iterPos
        rw [hw.heap (by omega) hoff hit2]
      have Hfin' := Lib.hid Hfin
      have Hmeas' := Lib.hid Hmeas
      clear Hfin Hmeas hat hq hrr hww hit2 hp2 hw2 hst hsum hoff hmu2 hKs H0
      by_cases hA : a = true ∧ 128 ≤ R
      · obtain ⟨rfl, hA2⟩ := hA
        have g1 : ((128 : Int) ≤ (R : Int)) = True := eq_true (by omega)
        have HK : Hid (escKind true true pos R = 2) := Lib.hid (by unfold escKind; rw [if_pos ⟨rfl, hA2⟩])
        clear hA2 hcont
        go_wp2_with fail
        skip
        refine (Hput.out 2 (by decide)).mono ?_
        rintro ex w4 ⟨rfl, vo4, hp4, hw4⟩
        have Hp4 := Lib.hid hp4
        have Hw4 := Lib.hid hw4
        clear hp4 hw4
        go_wp2_with fail
        go_roundw
        case rel => exact Hfin'.out 2 _ _ HK.out Hp4.out Hw4.out
        case measure => rw [Hmeas'.out _ _ Hw4.out, hmu]; omega
      · have hg : (a = true ∧ ((128 : Int) ≤ (R : Int)) = False) ∨ a = false := by
          cases a
          · exact .inr rfl
          · exact .inl ⟨rfl, eq_false (fun hh => hA ⟨rfl, by omega⟩)⟩
        have hk0 : escKind a true pos R = if R = 13 ∨ R = 10 ∨ R = 12 ∨ R = 65279 then 2 else if pos = 0 ∧ true = true then 1 else if isCont R = true then 0 else 1 := by unfold escKind; rw [if_neg hA]
        clear hA
        by_cases hB : R = 13 ∨ R = 10 ∨ R = 12 ∨ R = 65279
        · have HK : Hid (escKind a true pos R = 2) := Lib.hid (by rw [hk0, if_pos hB])
          have hm : ((R : Int) == 13) = true ∨ (((R : Int) == 13) = false ∧ ((R : Int) == 10) = true) ∨ (((R : Int) == 13) = false ∧ ((R : Int) == 10) = false ∧ ((R : Int) == 12) = true) ∨ (((R : Int) == 13) = false ∧ ((R : Int) == 10) = false ∧ ((R : Int) == 12) = false ∧ ((R : Int) == 65279) = true) := by
            simp only [beq_iff_eq, beq_eq_false_iff_ne, ne_eq]
            omega
          clear hB hk0 hcont
          rcases hg with ⟨rfl, g1⟩ | rfl <;> rcases hm with e1 | ⟨e1, e2⟩ | ⟨e1, e2, e3⟩ | ⟨e1, e2, e3, e4⟩
          all_goals
            go_wp2_with fail
            skip
            refine (Hput.out 2 (by decide)).mono ?_
            rintro ex w4 ⟨rfl, vo4, hp4, hw4⟩
            have Hp4 := Lib.hid hp4
            have Hw4 := Lib.hid hw4
            clear hp4 hw4
            go_wp2_with fail
            go_roundw
            case rel => exact Hfin'.out 2 _ _ HK.out Hp4.out Hw4.out
            case measure => rw [Hmeas'.out _ _ Hw4.out, hmu]; omega
        · have e1 : ((R : Int) == 13) = false := by simp; omega
          have e2 : ((R : Int) == 10) = false := by simp; omega
          have e3 : ((R : Int) == 12) = false := by simp; omega
          have e4 : ((R : Int) == 65279) = false := by simp; omega
          rw [if_neg hB] at hk0
          clear hB
          by_cases hP : pos = 0
          · have g5 : ((pos : Int) == 0) = true := by simp; omega
            have HK : Hid (escKind a true pos R = 1) := Lib.hid (by rw [hk0, if_pos ⟨hP, rfl⟩])
            clear hk0 hP
            generalize isCont R = q at hcont
            rcases hg with ⟨rfl, g1⟩ | rfl <;> cases q
            all_goals
              go_wp2_with fail
              refine (hcont w2).mono ?_; rintro ex w3 ⟨rfl, rfl⟩; go_wp2_with fail
              refine (Hput.out 1 (by decide)).mono ?_
              rintro ex w4 ⟨rfl, vo4, hp4, hw4⟩
              have Hp4 := Lib.hid hp4
              have Hw4 := Lib.hid hw4
              clear hp4 hw4
              go_wp2_with fail
              go_roundw
              case rel => exact Hfin'.out 1 _ _ HK.out Hp4.out Hw4.out
              case measure => rw [Hmeas'.out _ _ Hw4.out, hmu]; omega
          · have g5 : ((pos : Int) == 0) = false := by simp; omega
            rw [if_neg (fun hh => hP hh.1)] at hk0
            clear hP
            cases hq : isCont R
            · have HK : Hid (escKind a true pos R = 1) := Lib.hid (by rw [hk0, hq]; rfl)
              rw [hq] at hcont
              clear hk0 hq
              rcases hg with ⟨rfl, g1⟩ | rfl
              all_goals
                go_wp2_with fail
                refine (hcont w2).mono ?_; rintro ex w3 ⟨rfl, rfl⟩; go_wp2_with fail
                refine (Hput.out 1 (by decide)).mono ?_
                rintro ex w4 ⟨rfl, vo4, hp4, hw4⟩
                have Hp4 := Lib.hid hp4
                have Hw4 := Lib.hid hw4
                clear hp4 hw4
                go_wp2_with fail
                go_roundw
                case rel => exact Hfin'.out 1 _ _ HK.out Hp4.out Hw4.out
                case measure => rw [Hmeas'.out _ _ Hw4.out, hmu]; omega
            · have HK : Hid (escKind a true pos R = 0) := Lib.hid (by rw [hk0, hq]; rfl)
              rw [hq] at hcont
              clear hk0 hq
              rcases hg with ⟨rfl, g1⟩ | rfl
              all_goals
                go_wp2_with fail
                refine (hcont w2).mono ?_; rintro ex w3 ⟨rfl, rfl⟩; go_wp2_with fail
                refine (Hput.out 0 (by decide)).mono ?_
                rintro ex w4 ⟨rfl, vo4, hp4, hw4⟩
                have Hp4 := Lib.hid hp4
                have Hw4 := Lib.hid hw4
                clear hp4 hw4
                go_wp2_with fail
                go_roundw
                case rel => exact Hfin'.out 0 _ _ HK.out Hp4.out Hw4.out
                case measure => rw [Hmeas'.out _ _ Hw4.out, hmu]; omega
    · have hnx : ∀ ty, (Instr.next (.pointer (some ⟨w1.heap.size, 0, none⟩)) true ty).run Tryf.prog wo = _ := fun ty => run_next_end_at wo w1.heap.size t pos ty hat.it (by omega)
      have Hat := Lib.hid hat
      have hfin := hat.sum
      rw [slowT_end F a true t pos hlt, List.append_nil] at hfin
      have Hfin := Lib.hid hfin
      clear hat hfin H0 hKs
      go_wp2_with fail
      go_end0
      exact ⟨rfl, vo1, Hfin.out ▸ Hat.out.pr, Hat.out.wr⟩
end Go.Proofs.YtgfiigonjleeeaaFmt
