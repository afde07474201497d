/-
  Proved: contract of the css printer's printIdent (normal, whitespace may be discarded) where the name must be escaped (not the first character). No statement of the seat stands here.
-/
import Derived.Test.YtgfiigonjleeeaaFmtSlowA
import Derived.Laws.RangeAny
import Derived.Lib.OthersKept
import Derived.Scope
import Derived.WalkMore
import Derived.ScopeJumps
namespace Go.Proofs.YtgfiigonjleeeaaFmt
open Go.RowKit Go.ChangeAt
open Go.Extern.Stop Go.Stop Go.Extern
open Go.Lib (run_next_any_at run_next_end_at iterAt_heap iterAt_other iterAt_size below_iterAt)
set_option linter.unusedSimpArgs false
set_option linter.unusedVariables false
set_option maxRecDepth 100000
set_option maxHeartbeats 16000000 in
theorem slow_false (F : Interp) (B b : Nat) (m a : Bool) (vo : Option Addr) (out : List UInt8) (t : ByteArray) (w : World) (hw : wouldB t = true) (hpl : ¬ plainAll t) (hT : Lib.Utf8Tabs 1 2 w) (hF : F.answers w.tape) (hOk : HexOk F) (h : Pr B b m a vo out w) (ho : out.length ≤ 130000000000) (ht : t.size ≤ 600000) :
    Calls Tryf.prog 22 #[.pointer (some ⟨b, 0, none⟩), .string t, .int .u8 0, .int .u8 1] w (Wrt B b m a vo (out ++ slowT F a false t 0) w) := by
  have hbs := h.lt_size
  have Hadr := Lib.hid h.addr
  have Hp := Lib.hid h
  have hcall := would_any t w hT
  rw [hw] at hcall
  have HF := Lib.hid hF
  have HOk := Lib.hid hOk
  clear h hT hw hF hOk
  go_enter Tryf.func22, Tryf.ntmps22
  go_wp2_with fail
  refine hcall.mono ?_
  rintro ex w1 ⟨rfl, hc⟩
  have Hc := Lib.hid hc
  clear hc hcall
  have hs1 := Hc.out.size
  go_wp2_with fail
  have Hpl := Lib.hid hpl
  clear hpl
  refine wp_scope_jumps 0 (fun a' w' => w' = w1 ∧ ∃ v11 v12 v82 v83 v84 v85 v86 v87 v88 v89 v90 v91 v92 v93 v94 v95 v96 v97 : Value, a' = { tmps := #[.pointer (some ⟨b, 0, none⟩), .string t, .int .u8 0, .int .u8 1, undef, undef, undef, undef, .int .i64 t.size, .int .u8 0, undef, v11, v12, undef, undef, undef, undef, .string t, .int .i64 t.size, .int .u8 0, .bool true, .bool true, .string t, .bool true, .bool false, undef, undef, undef, undef, undef, undef, undef, undef, undef, undef, undef, undef, undef, undef, undef, undef, undef, undef, undef, undef, undef, undef, undef, undef, undef, undef, undef, undef, undef, undef, undef, undef, undef, undef, undef, undef, undef, undef, undef, undef, undef, undef, undef, undef, undef, undef, undef, undef, undef, undef, undef, undef, undef, undef, undef, .int .u8 0, .bool true, v82, v83, v84, v85, v86, v87, v88, v89, v90, v91, v92, v93, v94, v95, v96, v97, undef, undef, undef, undef, undef, undef, undef, undef, undef, undef, undef, undef, undef, undef, undef, undef, undef, undef, undef, undef, undef, undef, undef, undef, undef, undef, undef, undef, undef, undef, undef, undef, undef, undef, undef, undef, undef, undef, undef, undef, undef, undef, undef, undef, undef, undef, undef, undef, undef, undef, undef, undef, undef, undef, undef, undef, undef, undef, undef, undef, undef, undef, undef, undef, undef, undef, undef, undef, undef, undef], defers := [] }) (fun _ _ => 0) rfl ?_ ?_
  · go_wp2_with fail
    go_loop [11] (fun i => ∃ k : Nat, k ≤ t.size ∧ i = .int .i64 k ∧ ∀ j, j < k → bt t j < 128 ∧ isCont (bt t j) = true) (fun i => t.size - (intOf i).toNat)
    case atStart => exact ⟨0, by omega, rfl, fun j hj => by omega⟩
    case round =>
      obtain ⟨k, hk, rfl, hall⟩ := hrel
      have Hall := Lib.hid hall
      clear hall
      by_cases hlt : k < t.size
      · have hb := bt_eq t k hlt
        have hx2 : (k : Int) < (t.size : Int) := by omega
        have hx3 : (0 : Int) ≤ (k : Int) := by omega
        have hwr : IntKind.i32.wrap (bt t k : Int) = (bt t k : Int) := by have := bt_lt t k; rw [IntKind.wrap_i32]; omega
        by_cases h128 : 128 ≤ bt t k
        · have hx1 : ((128 : Int) ≤ (bt t k : Int)) = True := eq_true (by omega)
          clear h128
          go_wp2_with fail
          go_step3
          exact ⟨rfl, rfl, _, _, _, _, _, _, _, _, _, _, _, _, _, _, _, _, _, _, rfl⟩
        · have hx1 : ((128 : Int) ≤ (bt t k : Int)) = False := eq_false (by omega)
          have hcont := cont_any (bt t k) w1
          cases hq : isCont (bt t k)
          · rw [hq] at hcont
            clear hq h128
            go_wp2_with fail
            refine hcont.mono ?_
            rintro ex w2 ⟨rfl, rfl⟩
            go_wp2_with fail
            go_step3
            exact ⟨rfl, rfl, _, _, _, _, _, _, _, _, _, _, _, _, _, _, _, _, _, _, rfl⟩
          · rw [hq] at hcont
            have Hq : Hid (∀ j, j < k + 1 → bt t j < 128 ∧ isCont (bt t j) = true) := Lib.hid fun j hj => by
              by_cases hjk : j < k
              · exact Hall.out j hjk
              · obtain rfl : j = k := by omega
                exact ⟨by omega, hq⟩
            clear hq h128
            go_wp2_with fail
            refine hcont.mono ?_
            rintro ex w2 ⟨rfl, rfl⟩
            go_wp2_with fail
            go_round
            case rel => exact ⟨k + 1, by omega, by go_num, Hq.out⟩
            case measure => simp [intOf]; omega
      · exact absurd (fun j hj => Hall.out j (by omega)) Hpl.out
  rintro a' w' ⟨rfl, v11, v12, v82, v83, v84, v85, v86, v87, v88, v89, v90, v91, v92, v93, v94, v95, v96, v97, rfl⟩
  go_wp2_with fail
  simp only [Exit.jump]
  go_wp2_with fail
  have h0 : AtLoop F B b w'.heap.size m a false vo out t w (w'.iter t 0) := ⟨0, vo, out, by omega, ⟨World.iter_heap w' t 0, (Hp.out.wrote Hc.out).wrote ((Chg.refl Nowhere w').alloc _), ⟨(Hc.out.mono (fun _ _ h => h.elim)).alloc _, .inl rfl⟩, rfl, by omega, fun hh => by have := (Hadr.out _ hh).2; omega⟩⟩
  have H0 := Lib.hid h0
  clear h0
  go_loopw [13, 14, 15, 16] (fun _ _ _ _ wr => AtLoop F B b w'.heap.size m a false vo out t w wr) (fun _ _ _ _ wr => t.size + 5 - wr.iterPos w'.heap.size)
  case atStart => exact H0.out
  case round =>
    obtain ⟨pos, vo1, out1, hpos, hat⟩ := hrel
    revert wr
    intro wo hat
    have hmu : wo.iterPos w'.heap.size = pos := by unfold World.iterPos; rw [hat.it]
    have hKs := heap_lt hat.it
    by_cases hlt : pos < t.size
    · have hnx : ∀ ty, (Instr.next (.pointer (some ⟨w'.heap.size, 0, none⟩)) true ty).run Tryf.prog wo = _ := fun ty => run_next_any_at wo w'.heap.size t pos ty hat.it hlt
      obtain ⟨hit2, hp2, hw2⟩ := hat.next hs1 (by omega) (pos + (Utf8.decode t pos).2)
      have hmu2 : (wo.iterAt w'.heap.size t (pos + (Utf8.decode t pos).2)).iterPos w'.heap.size = pos + (Utf8.decode t pos).2 := by unfold World.iterPos; rw [hit2]
      have hwd := width_pos t pos hlt
      have hwl := width_le t pos
      have hrl := rune_le t pos
      have hrv := rune_valid t pos
      have hst := slowT_step F a false t pos hlt
      have hlen := hat.len
      have hsum := hat.sum
      rw [hst, ← List.append_assoc] at hsum
      have hoff := hat.off
      generalize hq : wo.iterAt w'.heap.size t (pos + (Utf8.decode t pos).2) = w2 at hnx hit2 hp2 hw2 hmu2
      generalize hrr : ((Utf8.decode t pos).1 : Nat) = R at hnx hrl hrv hsum
      generalize hww : ((Utf8.decode t pos).2 : Nat) = W at hit2 hwd hwl hsum hmu2
      have hcell := hp2.cell 7 (by decide)
      simp [pc] at hcell
      have hbs2 := hp2.lt_size
      have Hput := Lib.hid fun k hk => put_any F B b R k hk m a vo1 out1 (t.extract pos t.size) w2 hrl hrv (by rw [hw2.chg.tape]; exact HF.out) HOk.out hp2 (by omega)
      have hcont := fun w' => cont_any R w'
      have hx0 : (0 : Int) ≤ (pos : Int) := by omega
      have hx1 : (pos : Int) ≤ (t.size : Int) := by omega
      have Hfin : ∀ k (w3 : World) vo3, escKind a false pos R = k → Pr B b m a vo3 (out1 ++ escT F k R (t.extract pos t.size)) w3 → Wrote b vo1 vo3 w2 w3 → AtLoop F B b w'.heap.size m a false vo out t w w3 := fun k w3 vo3 hk hp hw => by
        subst hk
        have hl := escT_len HOk.out (escKind a false pos R) R (t.extract pos t.size) hrl
        have hKn : ¬ InRow vo1 w'.heap.size := hoff
        exact ⟨pos + W, vo3, _, by omega, ⟨hw.heap (by omega) hKn hit2, hp, hw2.trans hw, hsum, by rw [List.length_append]; omega, hw.out hKn (heap_lt hit2)⟩⟩
      have Hmeas : ∀ (w3 : World) vo3, Wrote b vo1 vo3 w2 w3 → w3.iterPos w'.heap.size = pos + W := fun w3 vo3 hw => by
        unfold World.iterPos
        rw [hw.heap (by omega) hoff hit2]
      have Hfin' := Lib.hid Hfin
      have Hmeas' := Lib.hid Hmeas
      clear Hfin Hmeas hat hq hrr hww hit2 hp2 hw2 hst hsum hoff hmu2 hKs H0
      by_cases hA : a = true ∧ 128 ≤ R
      · obtain ⟨rfl, hA2⟩ := hA
        have g1 : ((128 : Int) ≤ (R : Int)) = True := eq_true (by omega)
        have HK : Hid (escKind true false pos R = 2) := Lib.hid (by unfold escKind; rw [if_pos ⟨rfl, hA2⟩])
        clear hA2 hcont
        go_wp2_with fail
        skip
        refine (Hput.out 2 (by decide)).mono ?_
        rintro ex w4 ⟨rfl, vo4, hp4, hw4⟩
        have Hp4 := Lib.hid hp4
        have Hw4 := Lib.hid hw4
        clear hp4 hw4
        go_wp2_with fail
        go_roundw
        case rel => exact Hfin'.out 2 _ _ HK.out Hp4.out Hw4.out
        case measure => rw [Hmeas'.out _ _ Hw4.out, hmu]; omega
      · have hg : (a = true ∧ ((128 : Int) ≤ (R : Int)) = False) ∨ a = false := by
          cases a
          · exact .inr rfl
          · exact .inl ⟨rfl, eq_false (fun hh => hA ⟨rfl, by omega⟩)⟩
        have hk0 : escKind a false pos R = if R = 13 ∨ R = 10 ∨ R = 12 ∨ R = 65279 then 2 else if pos = 0 ∧ false = true then 1 else if isCont R = true then 0 else 1 := by unfold escKind; rw [if_neg hA]
        clear hA
        by_cases hB : R = 13 ∨ R = 10 ∨ R = 12 ∨ R = 65279
        · have HK : Hid (escKind a false pos R = 2) := Lib.hid (by rw [hk0, if_pos hB])
          have hm : ((R : Int) == 13) = true ∨ (((R : Int) == 13) = false ∧ ((R : Int) == 10) = true) ∨ (((R : Int) == 13) = false ∧ ((R : Int) == 10) = false ∧ ((R : Int) == 12) = true) ∨ (((R : Int) == 13) = false ∧ ((R : Int) == 10) = false ∧ ((R : Int) == 12) = false ∧ ((R : Int) == 65279) = true) := by
            simp only [beq_iff_eq, beq_eq_false_iff_ne, ne_eq]
            omega
          clear hB hk0 hcont
          rcases hg with ⟨rfl, g1⟩ | rfl <;> rcases hm with e1 | ⟨e1, e2⟩ | ⟨e1, e2, e3⟩ | ⟨e1, e2, e3, e4⟩
          all_goals
            go_wp2_with fail
            skip
            refine (Hput.out 2 (by decide)).mono ?_
            rintro ex w4 ⟨rfl, vo4, hp4, hw4⟩
            have Hp4 := Lib.hid hp4
            have Hw4 := Lib.hid hw4
            clear hp4 hw4
            go_wp2_with fail
            go_roundw
            case rel => exact Hfin'.out 2 _ _ HK.out Hp4.out Hw4.out
            case measure => rw [Hmeas'.out _ _ Hw4.out, hmu]; omega
        · have e1 : ((R : Int) == 13) = false := by simp; omega
          have e2 : ((R : Int) == 10) = false := by simp; omega
          have e3 : ((R : Int) == 12) = false := by simp; omega
          have e4 : ((R : Int) == 65279) = false := by simp; omega
          rw [if_neg hB] at hk0
          clear hB
          rw [if_neg (fun hh => by cases hh.2)] at hk0
          have g5 : ((pos : Int) == 0) = true ∨ ((pos : Int) == 0) = false := by cases ((pos : Int) == 0) <;> simp
          cases hq : isCont R
          · have HK : Hid (escKind a false pos R = 1) := Lib.hid (by rw [hk0, hq]; rfl)
            rw [hq] at hcont
            clear hk0 hq
            rcases hg with ⟨rfl, g1⟩ | rfl <;> rcases g5 with g5 | g5
            all_goals
              go_wp2_with fail
              refine (hcont w2).mono ?_; rintro ex w3 ⟨rfl, rfl⟩; go_wp2_with fail
              refine (Hput.out 1 (by decide)).mono ?_
              rintro ex w4 ⟨rfl, vo4, hp4, hw4⟩
              have Hp4 := Lib.hid hp4
              have Hw4 := Lib.hid hw4
              clear hp4 hw4
              go_wp2_with fail
              go_roundw
              case rel => exact Hfin'.out 1 _ _ HK.out Hp4.out Hw4.out
              case measure => rw [Hmeas'.out _ _ Hw4.out, hmu]; omega
          · have HK : Hid (escKind a false pos R = 0) := Lib.hid (by rw [hk0, hq]; rfl)
            rw [hq] at hcont
            clear hk0 hq
            rcases hg with ⟨rfl, g1⟩ | rfl <;> rcases g5 with g5 | g5
            all_goals
              go_wp2_with fail
              refine (hcont w2).mono ?_; rintro ex w3 ⟨rfl, rfl⟩; go_wp2_with fail
              refine (Hput.out 0 (by decide)).mono ?_
              rintro ex w4 ⟨rfl, vo4, hp4, hw4⟩
              have Hp4 := Lib.hid hp4
              have Hw4 := Lib.hid hw4
              clear hp4 hw4
              go_wp2_with fail
              go_roundw
              case rel => exact Hfin'.out 0 _ _ HK.out Hp4.out Hw4.out
              case measure => rw [Hmeas'.out _ _ Hw4.out, hmu]; omega
    · have hnx : ∀ ty, (Instr.next (.pointer (some ⟨w'.heap.size, 0, none⟩)) true ty).run Tryf.prog wo = _ := fun ty => run_next_end_at wo w'.heap.size t pos ty hat.it (by omega)
      have Hat := Lib.hid hat
      have hfin := hat.sum
      rw [slowT_end F a false t pos hlt, List.append_nil] at hfin
      have Hfin := Lib.hid hfin
      clear hat hfin H0 hKs
      go_wp2_with fail
      go_end0
      exact ⟨rfl, vo1, Hfin.out ▸ Hat.out.pr, Hat.out.wr⟩
end Go.Proofs.YtgfiigonjleeeaaFmt
