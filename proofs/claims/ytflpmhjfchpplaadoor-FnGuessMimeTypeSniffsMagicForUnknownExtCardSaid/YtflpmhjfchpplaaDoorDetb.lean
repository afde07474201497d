/-
  Proved: contract of DetectContentType at more than 512 bytes. No statement of the seat stands here.
-/
import Derived.Test.YtflpmhjfchpplaaDoorDet
namespace Go.Proofs.YtflpmhjfchpplaaDoor
open Go.RowKit Go.ChangeAt
set_option linter.unusedSimpArgs false
set_option linter.unusedVariables false
set_option maxRecDepth 100000
set_option maxHeartbeats 16000000 in
theorem det12b (a : Option Addr) (n0 n c k h : Nat) (l0 l : List UInt8) (ct : List UInt8) (w : World) (hd0 : Dat w a n0 c l0) (hn0 : 512 < n0) (hn : n = 512) (hl : l = l0.take 512) (hk1 : ∀ j, j < k → wsN (l.getD j 0).toNat = true) (hk2 : k < n → wsN (l.getD k 0).toNat = false) (hkn : k ≤ n) (hit : Sn.Hit l k ct h) (hct : ct ≠ []) :
    Calls Tryd.prog 12 #[.slice a n0 c] w (StrOut ct w) := by
  obtain ⟨hs0, hd1⟩ := cut_to hd0 512 (by omega)
  have hs : ∀ W, (Instr.sliceAt 28 (.slice a n0 c) none (some (.int .i64 512)) none).run Tryd.prog W = .ok (.slice a n c) W := fun W => by rw [hn]; exact hs0 W
  have hd : Dat w a n c l := by rw [hn, hl]; exact hd1
  have HD := Lib.hid hd
  have HK1 := Lib.hid hk1
  have HK2 := Lib.hid hk2
  have HH := Lib.hid hit
  have hn1 : n ≤ 512 := by omega
  have x1 : (512 : Int) < (n0 : Int) := by omega
  have hq1 : ((strB ct).toList != []) = true := by
    rw [ByteArray.toList_eq]
    simp [strB, hct]
  have hq2 : ((strB ct).toList == []) = false := by
    rw [ByteArray.toList_eq]
    simp [strB, hct]
  clear hd hk1 hk2 hit hct hd0 hd1 hs0 hn hl hn0
  go_enter Tryd.func12, Tryd.ntmps12
  go_wp2_with fail
  go_loop [3] (fun i => ∃ j : Nat, j ≤ k ∧ i = .int .i64 j) (fun i => k - (intOf i).toNat)
  case atStart => exact ⟨0, by omega, rfl⟩
  case round =>
    obtain ⟨j, hj, rfl⟩ := hrel
    by_cases hjk : j < k
    · obtain ⟨g, o, ea, h3⟩ := HD.out.at (by omega)
      subst ea
      have d1 := h3 j (by omega)
      have hws := HK1.out j hjk
      have hx0 : (0 : Int) ≤ (j : Int) := by omega
      have hx1 : (j : Int) < ((n : Nat) : Int) := by omega
      have l1 : (l.getD j 0).toNat < 256 := UInt8.toNat_lt _
      clear h3
      generalize (l.getD j 0).toNat = X at *
      go_wp2_with fail
      refine (ws15 X w).mono ?_
      rintro e1 w1 ⟨rfl, rfl⟩
      rw [hws]
      go_wp2_with fail
      go_round
      case rel => exact ⟨j + 1, by omega, by go_num⟩
      case measure => simp [intOf]; omega
    · obtain rfl : k = j := by omega
      clear hjk hj
      have T16 := Lib.hid (tab16 w)
      by_cases hjn : k < n
      · obtain ⟨g, o, ea, h3⟩ := HD.out.at (by omega)
        subst ea
        have d1 := h3 k hjn
        have hws := HK2.out hjn
        have hx0 : (0 : Int) ≤ (k : Int) := by omega
        have hx1 : (k : Int) < ((n : Nat) : Int) := by omega
        have l1 : (l.getD k 0).toNat < 256 := UInt8.toNat_lt _
        clear h3
        generalize (l.getD k 0).toNat = X at *
        go_wp2_with fail
        refine (ws15 X w).mono ?_
        rintro e1 w1 ⟨rfl, rfl⟩
        rw [hws]
        clear d1 hws l1
        go_wp2_with fail
        refine T16.out.mono ?_
        rintro e1 w1 ⟨gt, rfl, ht, hc1⟩
        have HT := Lib.hid ht
        have HC := Lib.hid hc1
        clear ht hc1 T16
        go_wp2_with fail
        go_loopw [27] (fun i wr => (∃ q : Nat, q ≤ h ∧ i = .int .i64 q) ∧ Chg Nowhere w1 wr) (fun i _ => 51 - (intOf i).toNat)
        case atStart => exact ⟨⟨0, by omega, rfl⟩, Chg.refl _ _⟩
        case round =>
          obtain ⟨⟨q, hq, rfl⟩, hch⟩ := hrel
          rename World => wr
          have hlt := HH.out.lt
          obtain ⟨v, s, hv, hs, hsig⟩ := (HT.out.keep hch) q (by omega)
          have hx2 : (0 : Int) ≤ (q : Int) := by omega
          have hx3 : (q : Int) < 51 := by omega
          cases s with
          | html b1 =>
            obtain ⟨b, rfl, hcel⟩ := hsig
            have hmm := m50 (some ⟨b, 0, none⟩) b1.length b1.length
            have hsz := small_of hs
            by_cases hqh : q < h
            · have hno := HH.out.no q _ hqh hs
              have hcon := html55 b b1 (some ⟨g, o, none⟩) n c k l wr hcel (HD.out.keep (HC.out.trans hch (fun _ _ h => h))) hsz hno.1 hno.2 hkn
              have Hch := Lib.hid hch
              clear hno hs hch hcel
              go_wp2_with fail
              refine hcon.mono ?_
              rintro e2 w2 ⟨rfl, hc2⟩
              rw [show strB [] = (⟨#[]⟩ : ByteArray) from rfl]
              have Hc2 := Lib.hid (Hch.out.trans hc2 (fun _ _ h => h))
              clear hc2 hcon
              go_wp2_with fail
              go_roundw
              case rel => exact ⟨⟨q + 1, by omega, by go_num⟩, Hc2.out⟩
              case measure => simp [intOf]; omega
            · obtain rfl : q = h := by omega
              exact (HH.out.yes _ hs).elim
          | exact b1 ct1 =>
            obtain ⟨p, b, rfl, hp, hcel⟩ := hsig
            have hmm := m54 p
            have hsz := small_ofe hs
            by_cases hqh : q < h
            · have hno := HH.out.no q _ hqh hs
              have hcon := exact58 p b b1 ct1 (some ⟨g, o, none⟩) n c (.int .i64 k) l [] wr hp hcel (HD.out.keep (HC.out.trans hch (fun _ _ h => h))) hsz (by rw [show b1.isPrefixOf l = false from hno]; rfl)
              have Hch := Lib.hid hch
              clear hno hs hch hp hcel
              go_wp2_with fail
              refine hcon.mono ?_
              rintro e2 w2 ⟨rfl, hc2⟩
              rw [show strB [] = (⟨#[]⟩ : ByteArray) from rfl]
              have Hc2 := Lib.hid (Hch.out.trans hc2 (fun _ _ h => h))
              clear hc2 hcon
              go_wp2_with fail
              go_roundw
              case rel => exact ⟨⟨q + 1, by omega, by go_num⟩, Hc2.out⟩
              case measure => simp [intOf]; omega
            · obtain rfl : q = h := by omega
              have hyes := HH.out.yes _ hs
              have hcon := exact58 p b b1 ct1 (some ⟨g, o, none⟩) n c (.int .i64 k) l ct wr hp hcel (HD.out.keep (HC.out.trans hch (fun _ _ h => h))) hsz (by rw [if_pos hyes.1]; exact hyes.2)
              have Hch := Lib.hid hch
              clear hyes hs hch hp hcel
              go_wp2_with fail
              refine hcon.mono ?_
              rintro e2 w2 ⟨rfl, hc2⟩
              have Hc2 := Lib.hid ((HC.out.trans Hch.out (fun _ _ h => h)).trans hc2 (fun _ _ h => h))
              clear hc2 hcon
              go_wp2_with fail
              go_ret
              exact ⟨rfl, Hc2.out⟩
          | masked mm1 qq1 sk ct1 =>
            obtain ⟨p, b, c1, rfl, hp, hcel1, hcel2⟩ := hsig
            have hmm := m51 p
            by_cases hqh : q < h
            · have hno := HH.out.no q _ hqh hs
              have hcon := masked57 p b c1 mm1 qq1 ct1 sk (some ⟨g, o, none⟩) n c k l wr hp hcel1 hcel2 (HD.out.keep (HC.out.trans hch (fun _ _ h => h))) hkn hno.1 hno.2
              have Hch := Lib.hid hch
              clear hno hs hch hp hcel1 hcel2
              go_wp2_with fail
              refine hcon.mono ?_
              rintro e2 w2 ⟨rfl, hc2⟩
              rw [show strB [] = (⟨#[]⟩ : ByteArray) from rfl]
              have Hc2 := Lib.hid (Hch.out.trans hc2 (fun _ _ h => h))
              clear hc2 hcon
              go_wp2_with fail
              go_roundw
              case rel => exact ⟨⟨q + 1, by omega, by go_num⟩, Hc2.out⟩
              case measure => simp [intOf]; omega
            · obtain rfl : q = h := by omega
              exact (HH.out.yes _ hs).elim
          | mp4 =>
            obtain rfl := hsig
            have hmm := m58
            by_cases hqh : q < h
            · have hno := HH.out.no q _ hqh hs
              have hcon := mp4_61 (some ⟨g, o, none⟩) n c k l wr (HD.out.keep (HC.out.trans hch (fun _ _ h => h))) hno
              have Hch := Lib.hid hch
              clear hno hs hch 
              go_wp2_with fail
              refine hcon.mono ?_
              rintro e2 w2 ⟨rfl, hc2⟩
              rw [show strB [] = (⟨#[]⟩ : ByteArray) from rfl]
              have Hc2 := Lib.hid (Hch.out.trans hc2 (fun _ _ h => h))
              clear hc2 hcon
              go_wp2_with fail
              go_roundw
              case rel => exact ⟨⟨q + 1, by omega, by go_num⟩, Hc2.out⟩
              case measure => simp [intOf]; omega
            · obtain rfl : q = h := by omega
              exact (HH.out.yes _ hs).elim
          | text =>
            obtain rfl := hsig
            have hmm := m59
            by_cases hqh : q < h
            · exact (HH.out.no q _ hqh hs).elim
            · obtain rfl : q = h := by omega
              have hyes := HH.out.yes _ hs
              have hcon := (by obtain ⟨h1, h2⟩ := hyes; rw [h2]; exact text62 (some ⟨g, o, none⟩) n c k l wr (HD.out.keep (HC.out.trans hch (fun _ _ h => h))) hkn h1 : Calls Tryd.prog 62 #[.agg #[], .slice (some ⟨g, o, none⟩) n c, .int .i64 k] wr (StrOut ct wr))
              have Hch := Lib.hid hch
              clear hyes hs hch 
              go_wp2_with fail
              refine hcon.mono ?_
              rintro e2 w2 ⟨rfl, hc2⟩
              have Hc2 := Lib.hid ((HC.out.trans Hch.out (fun _ _ h => h)).trans hc2 (fun _ _ h => h))
              clear hc2 hcon
              go_wp2_with fail
              go_ret
              exact ⟨rfl, Hc2.out⟩
      · have hx1 : ¬ (k : Int) < ((n : Nat) : Int) := by omega
        go_wp2_with fail
        refine T16.out.mono ?_
        rintro e1 w1 ⟨gt, rfl, ht, hc1⟩
        have HT := Lib.hid ht
        have HC := Lib.hid hc1
        clear ht hc1 T16
        go_wp2_with fail
        go_loopw [27] (fun i wr => (∃ q : Nat, q ≤ h ∧ i = .int .i64 q) ∧ Chg Nowhere w1 wr) (fun i _ => 51 - (intOf i).toNat)
        case atStart => exact ⟨⟨0, by omega, rfl⟩, Chg.refl _ _⟩
        case round =>
          obtain ⟨⟨q, hq, rfl⟩, hch⟩ := hrel
          rename World => wr
          have hlt := HH.out.lt
          obtain ⟨v, s, hv, hs, hsig⟩ := (HT.out.keep hch) q (by omega)
          have hx2 : (0 : Int) ≤ (q : Int) := by omega
          have hx3 : (q : Int) < 51 := by omega
          cases s with
          | html b1 =>
            obtain ⟨b, rfl, hcel⟩ := hsig
            have hmm := m50 (some ⟨b, 0, none⟩) b1.length b1.length
            have hsz := small_of hs
            by_cases hqh : q < h
            · have hno := HH.out.no q _ hqh hs
              have hcon := html55 b b1 a n c k l wr hcel (HD.out.keep (HC.out.trans hch (fun _ _ h => h))) hsz hno.1 hno.2 hkn
              have Hch := Lib.hid hch
              clear hno hs hch hcel
              go_wp2_with fail
              refine hcon.mono ?_
              rintro e2 w2 ⟨rfl, hc2⟩
              rw [show strB [] = (⟨#[]⟩ : ByteArray) from rfl]
              have Hc2 := Lib.hid (Hch.out.trans hc2 (fun _ _ h => h))
              clear hc2 hcon
              go_wp2_with fail
              go_roundw
              case rel => exact ⟨⟨q + 1, by omega, by go_num⟩, Hc2.out⟩
              case measure => simp [intOf]; omega
            · obtain rfl : q = h := by omega
              exact (HH.out.yes _ hs).elim
          | exact b1 ct1 =>
            obtain ⟨p, b, rfl, hp, hcel⟩ := hsig
            have hmm := m54 p
            have hsz := small_ofe hs
            by_cases hqh : q < h
            · have hno := HH.out.no q _ hqh hs
              have hcon := exact58 p b b1 ct1 a n c (.int .i64 k) l [] wr hp hcel (HD.out.keep (HC.out.trans hch (fun _ _ h => h))) hsz (by rw [show b1.isPrefixOf l = false from hno]; rfl)
              have Hch := Lib.hid hch
              clear hno hs hch hp hcel
              go_wp2_with fail
              refine hcon.mono ?_
              rintro e2 w2 ⟨rfl, hc2⟩
              rw [show strB [] = (⟨#[]⟩ : ByteArray) from rfl]
              have Hc2 := Lib.hid (Hch.out.trans hc2 (fun _ _ h => h))
              clear hc2 hcon
              go_wp2_with fail
              go_roundw
              case rel => exact ⟨⟨q + 1, by omega, by go_num⟩, Hc2.out⟩
              case measure => simp [intOf]; omega
            · obtain rfl : q = h := by omega
              have hyes := HH.out.yes _ hs
              have hcon := exact58 p b b1 ct1 a n c (.int .i64 k) l ct wr hp hcel (HD.out.keep (HC.out.trans hch (fun _ _ h => h))) hsz (by rw [if_pos hyes.1]; exact hyes.2)
              have Hch := Lib.hid hch
              clear hyes hs hch hp hcel
              go_wp2_with fail
              refine hcon.mono ?_
              rintro e2 w2 ⟨rfl, hc2⟩
              have Hc2 := Lib.hid ((HC.out.trans Hch.out (fun _ _ h => h)).trans hc2 (fun _ _ h => h))
              clear hc2 hcon
              go_wp2_with fail
              go_ret
              exact ⟨rfl, Hc2.out⟩
          | masked mm1 qq1 sk ct1 =>
            obtain ⟨p, b, c1, rfl, hp, hcel1, hcel2⟩ := hsig
            have hmm := m51 p
            by_cases hqh : q < h
            · have hno := HH.out.no q _ hqh hs
              have hcon := masked57 p b c1 mm1 qq1 ct1 sk a n c k l wr hp hcel1 hcel2 (HD.out.keep (HC.out.trans hch (fun _ _ h => h))) hkn hno.1 hno.2
              have Hch := Lib.hid hch
              clear hno hs hch hp hcel1 hcel2
              go_wp2_with fail
              refine hcon.mono ?_
              rintro e2 w2 ⟨rfl, hc2⟩
              rw [show strB [] = (⟨#[]⟩ : ByteArray) from rfl]
              have Hc2 := Lib.hid (Hch.out.trans hc2 (fun _ _ h => h))
              clear hc2 hcon
              go_wp2_with fail
              go_roundw
              case rel => exact ⟨⟨q + 1, by omega, by go_num⟩, Hc2.out⟩
              case measure => simp [intOf]; omega
            · obtain rfl : q = h := by omega
              exact (HH.out.yes _ hs).elim
          | mp4 =>
            obtain rfl := hsig
            have hmm := m58
            by_cases hqh : q < h
            · have hno := HH.out.no q _ hqh hs
              have hcon := mp4_61 a n c k l wr (HD.out.keep (HC.out.trans hch (fun _ _ h => h))) hno
              have Hch := Lib.hid hch
              clear hno hs hch 
              go_wp2_with fail
              refine hcon.mono ?_
              rintro e2 w2 ⟨rfl, hc2⟩
              rw [show strB [] = (⟨#[]⟩ : ByteArray) from rfl]
              have Hc2 := Lib.hid (Hch.out.trans hc2 (fun _ _ h => h))
              clear hc2 hcon
              go_wp2_with fail
              go_roundw
              case rel => exact ⟨⟨q + 1, by omega, by go_num⟩, Hc2.out⟩
              case measure => simp [intOf]; omega
            · obtain rfl : q = h := by omega
              exact (HH.out.yes _ hs).elim
          | text =>
            obtain rfl := hsig
            have hmm := m59
            by_cases hqh : q < h
            · exact (HH.out.no q _ hqh hs).elim
            · obtain rfl : q = h := by omega
              have hyes := HH.out.yes _ hs
              have hcon := (by obtain ⟨h1, h2⟩ := hyes; rw [h2]; exact text62 a n c k l wr (HD.out.keep (HC.out.trans hch (fun _ _ h => h))) hkn h1 : Calls Tryd.prog 62 #[.agg #[], .slice a n c, .int .i64 k] wr (StrOut ct wr))
              have Hch := Lib.hid hch
              clear hyes hs hch 
              go_wp2_with fail
              refine hcon.mono ?_
              rintro e2 w2 ⟨rfl, hc2⟩
              have Hc2 := Lib.hid ((HC.out.trans Hch.out (fun _ _ h => h)).trans hc2 (fun _ _ h => h))
              clear hc2 hcon
              go_wp2_with fail
              go_ret
              exact ⟨rfl, Hc2.out⟩
end Go.Proofs.YtflpmhjfchpplaaDoor
