/-
  Proved: contract of ftoa64 of Go's float formatting at the shortest 'g' form. No condition; no statement of the seat stands here.
-/
import Derived.Test.YtmlgfhdjdmfdbaaDoorFtK
import Derived.Deep.RegionWith
import Derived.Deep.CutRange
import Derived.Deep.DeepCutAuto
namespace Go.Proofs.YtmlgfhdjdmfdbaaDoor
open Go.RowKit Go.ChangeAt Go.Sort
set_option linter.unusedSimpArgs false
set_option linter.unusedVariables false
set_option maxRecDepth 100000
theorem bits64 (b : Nat) (w : World) : (callFunc 23 #[.float .f64 b]).run Tryd.prog w = .ok (.value (.int .u64 (b : Int))) w := by kernel_rfl
/-- The digits that are printed. -/
def dsOf (d : Nat) : List UInt8 := (Lib.decDigits d).take (cut (Lib.decDigits d) (Lib.nDigits d))
set_option maxHeartbeats 8000000 in
theorem ftoaFin (w0 w : World) (vo : Option Addr) (L vc b E M mant s m d nd nz : Nat) (neg : Bool) (out : List UInt8) (e1 e2 k dp : Int)
    (hneg : ((b : Int) / 9223372036854775808 != 0) = neg) (hE : bits .and .i64 (wrap64 ((b : Int) / 4503599627370496)) 2047 = (E : Int)) (hM : bits .and .u64 (b : Int) 4503599627370495 = (M : Int))
    (hE1 : ((E : Int) == 2047) = false)
    (hexp : ((E : Int) == 0) = true ∧ e1 = 1 ∧ mant = M ∨ ((E : Int) == 0) = false ∧ e1 = (E : Int) ∧ bits .or .u64 (M : Int) 4503599627370496 = (mant : Int))
    (he1 : 0 ≤ e1 ∧ e1 ≤ 2047) (hm0 : 1 ≤ mant ∧ mant < 9007199254740992) (hs : (Lib.bitLen mant : Int) + (s : Int) = 64) (hm : IntKind.u64.wrap ((mant : Int) * 2 ^ s) = (m : Int))
    (he2 : e2 = e1 - 1023 - (s : Int) - 52)
    (hshort : ∀ w', Chg Nowhere w w' → Calls Tryd.prog 36 #[.int .u64 m, .int .i64 e2] w' (PairOut d k w'))
    (hnum : ∀ w', Chg Nowhere w w' → Calls Tryd.prog 30 #[.int .u64 d] w' (Same (.int .i64 nd) w'))
    (hnd : nd = Lib.nDigits d) (hd : d < 18446744073709551616) (hd32 : nd ≤ 32) (hnz : nz = cut (Lib.decDigits d) (Lib.nDigits d)) (hnz1 : 1 ≤ nz) (hk : -800 ≤ k ∧ k ≤ 800) (hdp : (nd : Int) + k = dp)
    (hlen : L = out.length) (hL : L ≤ 1000) (hown : w.ownsRow w0.heap.size 5 1 (.slice vo L vc) L (Lib.byteCells out)) (hchg : Chg Nowhere w0 w) :
    Calls Tryd.prog 18 #[.slice vo L vc, .float .f64 b, .int .u8 103, .int .i64 (-1)] w (FmtOut w0 (out ++ txtG neg (dsOf d) dp)) := by
  have hfb := bits64 b
  have HEXP := Lib.hid (And.intro hexp (And.intro he1 hm0))
  have HS := Lib.hid (And.intro hs he2)
  have HSH := Lib.hid hshort
  have HNU := Lib.hid hnum
  have HD := Lib.hid (And.intro hnd (And.intro hd (And.intro hnz (And.intro hnz1 (And.intro hk hdp)))))
  have HW := Lib.hid (And.intro hlen (And.intro hown hchg))
  have e64 : (64 : Int) - (Lib.bitLen mant : Int) = (s : Int) := by omega
  have hs63 : s ≤ 64 := by omega
  have HM := Lib.hid hM
  have HMM := Lib.hid hm
  have hmant0 : ((mant : Int) == 0) = false := by simp; omega
  clear hexp he1 hm0 hs he2 hshort hnum hnd hd hnz hnz1 hk hdp hlen hown hchg hm
  go_enter Tryd.func18, Tryd.ntmps18
  go_wp2_with fail
  go_region
  clear hfb
  go_upto_if 78 with fail
  go_cut [14, 15] (fun c14 c15 wx => c14 = .int .i64 e1 ∧ c15 = .int .u64 mant ∧ w.drew = wx)
  case first =>
    rcases HEXP.out.1 with ⟨h1, h2, h3⟩ | ⟨h1, h2, h3⟩
    · subst h3
      have HX := Lib.hid h2
      have h1' : (E : Int) = 0 := by simpa using h1
      clear h2
      go_wp2_with fail
      go_meet
      case rel => exact ⟨by rw [HX.out], rfl, rfl⟩
    · have HX := Lib.hid h2
      clear h2
      go_wp2_with fail
      go_meet
      case rel => exact ⟨by rw [HX.out], rfl, rfl⟩
  case rest =>
  obtain ⟨rfl, rfl, rfl⟩ := hcut
  have he2 : e1 + -1023 - (s : Int) - 52 = e2 := by have := HS.out.2; omega
  have hb1 := HEXP.out.2
  have hm := HMM.out
  go_wp2_with fail
  refine (Tryd.bits_Len64 (mant : Int) _ (by omega) (by omega)).mono ?_
  rintro e w1 ⟨rfl, rfl⟩
  rw [Int.toNat_natCast]
  go_wp2_with fail
  have hC0 : Chg Nowhere w ((w.alloc (.cells #[.int .u8 0, .int .u8 0, .int .u8 0, .int .u8 0, .int .u8 0, .int .u8 0, .int .u8 0, .int .u8 0, .int .u8 0, .int .u8 0, .int .u8 0, .int .u8 0, .int .u8 0, .int .u8 0, .int .u8 0, .int .u8 0, .int .u8 0, .int .u8 0, .int .u8 0, .int .u8 0, .int .u8 0, .int .u8 0, .int .u8 0, .int .u8 0, .int .u8 0, .int .u8 0, .int .u8 0, .int .u8 0, .int .u8 0, .int .u8 0, .int .u8 0, .int .u8 0] 93)).drew) := ((Chg.refl _ w).alloc _).drew
  have hz0 : ∀ j, j < 32 → ((w.alloc (.cells #[.int .u8 0, .int .u8 0, .int .u8 0, .int .u8 0, .int .u8 0, .int .u8 0, .int .u8 0, .int .u8 0, .int .u8 0, .int .u8 0, .int .u8 0, .int .u8 0, .int .u8 0, .int .u8 0, .int .u8 0, .int .u8 0, .int .u8 0, .int .u8 0, .int .u8 0, .int .u8 0, .int .u8 0, .int .u8 0, .int .u8 0, .int .u8 0, .int .u8 0, .int .u8 0, .int .u8 0, .int .u8 0, .int .u8 0, .int .u8 0, .int .u8 0, .int .u8 0] 93)).drew).cell? ⟨w.heap.size, j, none⟩ = some (.int .u8 0) := fun j hj => by
    have h := cell_of_heap (heap_at w (.cells (Array.replicate 32 (.int .u8 0)) 93) _ rfl) j
    rw [Array.getElem?_replicate, if_pos hj] at h
    exact h
  have hf0 : ∀ j, ((w.alloc (.cells #[.int .u8 0, .int .u8 0, .int .u8 0, .int .u8 0, .int .u8 0, .int .u8 0, .int .u8 0, .int .u8 0, .int .u8 0, .int .u8 0, .int .u8 0, .int .u8 0, .int .u8 0, .int .u8 0, .int .u8 0, .int .u8 0, .int .u8 0, .int .u8 0, .int .u8 0, .int .u8 0, .int .u8 0, .int .u8 0, .int .u8 0, .int .u8 0, .int .u8 0, .int .u8 0, .int .u8 0, .int .u8 0, .int .u8 0, .int .u8 0, .int .u8 0, .int .u8 0] 93)).drew).frozen? ⟨w.heap.size, j, none⟩ = false := fun j => frozen_of_heap (heap_at w (.cells (Array.replicate 32 (.int .u8 0)) 93) _ rfl) j
  have hl0 : w.heap.size < ((w.alloc (.cells #[.int .u8 0, .int .u8 0, .int .u8 0, .int .u8 0, .int .u8 0, .int .u8 0, .int .u8 0, .int .u8 0, .int .u8 0, .int .u8 0, .int .u8 0, .int .u8 0, .int .u8 0, .int .u8 0, .int .u8 0, .int .u8 0, .int .u8 0, .int .u8 0, .int .u8 0, .int .u8 0, .int .u8 0, .int .u8 0, .int .u8 0, .int .u8 0, .int .u8 0, .int .u8 0, .int .u8 0, .int .u8 0, .int .u8 0, .int .u8 0, .int .u8 0, .int .u8 0] 93)).drew).heap.size := heap_lt (heap_at w (.cells (Array.replicate 32 (.int .u8 0)) 93) _ rfl)
  generalize (w.alloc (.cells #[.int .u8 0, .int .u8 0, .int .u8 0, .int .u8 0, .int .u8 0, .int .u8 0, .int .u8 0, .int .u8 0, .int .u8 0, .int .u8 0, .int .u8 0, .int .u8 0, .int .u8 0, .int .u8 0, .int .u8 0, .int .u8 0, .int .u8 0, .int .u8 0, .int .u8 0, .int .u8 0, .int .u8 0, .int .u8 0, .int .u8 0, .int .u8 0, .int .u8 0, .int .u8 0, .int .u8 0, .int .u8 0, .int .u8 0, .int .u8 0, .int .u8 0, .int .u8 0] 93)).drew = wz at hC0 hz0 hf0 hl0 ⊢
  refine (HSH.out _ hC0).mono ?_
  rintro e w2 ⟨rfl, hc2⟩
  have hz2 : ∀ j, j < 32 → w2.cell? ⟨w.heap.size, j, none⟩ = some (.int .u8 0) := fun j hj => hc2.cell (hz0 j hj) (fun h => h)
  have hf2 : ∀ j, w2.frozen? ⟨w.heap.size, j, none⟩ = false := fun j => (hc2.frozen_eq (p := ⟨w.heap.size, j, none⟩) hl0 (fun h => h)).trans (hf0 j)
  have hl2 : w.heap.size < w2.heap.size := Nat.lt_of_lt_of_le hl0 hc2.size
  have hC2 : Chg Nowhere w w2 := hC0.trans hc2 (fun _ _ h => h)
  have hgn : ∀ k, k < w.heap.size → ¬ (k = w.heap.size) := fun k hk => by omega
  have hno : ¬ InRow vo w.heap.size := fun h => by have := (inRow_own HW.out.2.1 _ h).2; omega
  have HC2 := Lib.hid (And.intro hC2 (And.intro hgn hno))
  generalize hg : w.heap.size = g at hz2 hf2 hl2 HC2 ⊢
  have HG := Lib.hid hg
  have HZ := Lib.hid (And.intro hz2 (And.intro hf2 hl2))
  clear hC0 hz0 hf0 hl0 hc2 hz2 hf2 hl2 hC2 hgn hno hm he2 hb1 hg
  have hsd : Calls Tryd.prog 29 #[.slice (some ⟨g, 0, none⟩) 32 32, .int .u64 d, .int .i64 k, .int .i64 nd] w2.drew (DigOut g d dp w2.drew) := setd26 g d nd k dp w2.drew (fun j hj => HZ.out.1 j hj) (fun j => HZ.out.2.1 j) HD.out.1 hd32 HD.out.2.1 HD.out.2.2.2.2.2 (by have := HD.out.2.2.2.2.1; omega)
  have HSD := Lib.hid hsd
  clear hsd
  go_upto_region 38 with fail
  go_cut [22, 23] (fun c22 c23 wx => c22 = .int .i64 dp ∧ c23 = .int .i64 nz ∧ Digs wx g (Lib.decDigits d) ∧ Chg (fun k => k = g) w2 wx)
  case first =>
    go_region_with (first | ((go_at_call 30; refine (HNU.out _ HC2.out.1.drew).mono ?_; rintro e w' ⟨rfl, rfl⟩)) | ((go_at_call 29; refine HSD.out.mono ?_; rintro e w' ⟨rfl, hdg, hch⟩)))
    all_goals (
      have HR1 := Lib.hid (And.intro hdg hch)
      clear hdg hch
      go_wp2_with fail
      go_meet
      (case rel => exact ⟨rfl, by rw [HD.out.2.2.1], HR1.out.1, (Chg.refl _ w2).drew.trans HR1.out.2 (fun _ _ h => h)⟩))
  case rest =>
  obtain ⟨rfl, rfl, hdg, hch⟩ := hcut
  rename World => w3
  have hC3 : Chg Nowhere w w3 := HC2.out.1.trans hch (fun k hk h => HC2.out.2.1 k (by have := HG.out; omega) h) 
  have hdl : (dsOf d).length = nz := by unfold dsOf; rw [List.length_take, Lib.decDigits_length, ← HD.out.2.2.1]; have := cut_le (Lib.decDigits d) (Lib.nDigits d); rw [← HD.out.2.2.1] at this; omega
  have hRD : RowD w0 w3 vo L vc out g (dsOf d) := by
    refine ⟨HW.out.1, ?_, HW.out.2.2.trans hC3 (fun _ _ h => h), fun j hj => ?_, HC2.out.2.2, Nat.lt_of_lt_of_le HZ.out.2.2 hch.size⟩
    · exact hC3.owns HW.out.2.1 (fun _ _ h => h)
    · have h2 := hdg j (by rw [Lib.decDigits_length]; rw [hdl] at hj; have := cut_le (Lib.decDigits d) (Lib.nDigits d); rw [← HD.out.2.2.1] at this; omega)
      rw [show (dsOf d).getD j 0 = (Lib.decDigits d).getD j 0 by
        unfold dsOf; rw [hdl] at hj; rw [List.getD_eq_getElem?_getD, List.getD_eq_getElem?_getD, List.getElem?_take_of_lt (by rw [← HD.out.2.2.1]; exact hj)]]
      exact h2
  have HRD := Lib.hid hRD
  have HDL := Lib.hid hdl
  clear hdg hch hC3 hdl hRD
  go_wp2_with fail
  refine (fmt23 w0 w3 vo L vc g out neg nz dp (dsOf d) HDL.out HD.out.2.2.2.1 (by have := cut_le (Lib.decDigits d) (Lib.nDigits d); have h1 := HD.out.1; have h2 := HD.out.2.2.1; omega) (by have := HD.out; omega) hL HRD.out).mono ?_
  rintro e w' ⟨v1, L1, c1, rfl, r1⟩
  have HRR := Lib.hid r1
  clear r1
  go_wp2_with fail
  go_ret
  exact ⟨v1, L1, c1, rfl, HRR.out⟩
end Go.Proofs.YtmlgfhdjdmfdbaaDoor
