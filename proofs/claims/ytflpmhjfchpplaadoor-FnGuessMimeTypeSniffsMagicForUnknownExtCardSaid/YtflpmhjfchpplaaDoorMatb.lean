/-
  Proved: contracts of the signatures' match: masked, text, mp4. No statement of the seat stands here.
-/
import Derived.Test.YtflpmhjfchpplaaDoorMata
import Derived.BigQuiet
namespace Go.Proofs.YtflpmhjfchpplaaDoor
open Go.RowKit Go.ChangeAt
set_option linter.unusedSimpArgs false
set_option linter.unusedVariables false
set_option maxRecDepth 100000
theorem bits_and_u8_nat (a b : Nat) (ha : a < 256) (hb : b < 256) : bits .and .u8 (a : Int) (b : Int) = ((a &&& b : Nat) : Int) := by
  have hx : a &&& b < 2 ^ 8 := Nat.and_lt_two_pow _ (by omega)
  have h1 : (BitVec.ofInt 8 (a : Int)).toNat = a := by
    rw [BitVec.ofInt_natCast, BitVec.toNat_ofNat]; exact Nat.mod_eq_of_lt (by omega)
  have h2 : (BitVec.ofInt 8 (b : Int)).toNat = b := by
    rw [BitVec.ofInt_natCast, BitVec.toNat_ofNat]; exact Nat.mod_eq_of_lt (by omega)
  show IntKind.u8.wrap ((BitVec.ofInt 8 (a : Int) &&& BitVec.ofInt 8 (b : Int)).toNat : Int) = _
  rw [BitVec.toNat_and, h1, h2, IntKind.wrap_u8]
  omega
theorem bits_and_u8 (a b : UInt8) : bits .and .u8 (a.toNat : Int) (b.toNat : Int) = ((a &&& b).toNat : Int) := by
  rw [bits_and_u8_nat _ _ a.toNat_lt b.toNat_lt, UInt8.toNat_and]
theorem mask_of : ∀ (m q l : List UInt8), m.length = q.length → q.length ≤ l.length → (∀ x, x < q.length → (l.getD x 0 &&& m.getD x 0) = q.getD x 0) → Sn.maskB m q l = true
  | m, [], l, _, _, _ => by unfold Sn.maskB; rfl
  | [], q :: qs, l, h, _, _ => by simp at h
  | m :: ms, q :: qs, [], _, h, _ => by simp at h
  | m :: ms, q :: qs, x :: l, h1, h2, h => by
    unfold Sn.maskB
    have h0 := h 0 (by simp)
    simp only [List.getD_cons_zero] at h0
    rw [mask_of ms qs l (by simpa using h1) (by simpa using h2) (fun y hy => by
      have := h (y + 1) (by simp; omega)
      simpa only [List.getD_cons_succ] using this)]
    simp [h0]
set_option maxHeartbeats 8000000 in
theorem masked57 (p b1 b2 : Nat) (m q ct : List UInt8) (sk : Bool) (a : Option Addr) (n c k : Nat) (l : List UInt8) (w : World) (hp : w.heap[p]? = some (.cells #[.slice (some ⟨b1, 0, none⟩) m.length m.length, .slice (some ⟨b2, 0, none⟩) q.length q.length, .bool sk, .string (strB ct)] 53 (0, 0))) (hc1 : Cel w b1 m) (hc2 : Cel w b2 q) (hd : Dat w a n c l) (hk : k ≤ n) (hm : m.length = q.length) (hB : Sn.maskB m q (if sk then l.drop k else l) = false) :
    Calls Tryd.prog 57 #[.pointer (some ⟨p, 0, none⟩), .slice a n c, .int .i64 k] w (StrOut [] w) := by
  rw [hm] at hp
  have c0 := cell_of_heap hp 0
  have c1 := cell_of_heap hp 1
  have c2 := cell_of_heap hp 2
  have c3 := cell_of_heap hp 3
  simp only [List.getElem?_toArray, List.getElem?_cons_succ, List.getElem?_cons_zero] at c0 c1 c2 c3
  have lp := heap_lt hp
  have HP := Lib.hid hp
  have HC := Lib.hid (And.intro hc1 hc2)
  cases sk
  · have HM := Lib.hid (And.intro hm hB)
    clear hB hm
    have hb1 := hd.big
    have hcp := hd.cap
    have hln := hd.len
    have HD := Lib.hid hd
    by_cases hlt : n < q.length
    · have x1 : ((n : Nat) : Int) < (q.length : Int) := by omega
      clear hlt HM
      clear hp hc1 hc2 hd
      go_enter Tryd.func57, Tryd.ntmps57
      go_wp2_with fail
      go_quiet (fail)
      go_wp2_with fail
      go_ret
      exact ⟨rfl, (Chg.refl _ _).drewN _⟩
    · have x1 : ¬ ((n : Nat) : Int) < (q.length : Int) := by omega
      clear hp hc1 hc2 hd
      go_enter Tryd.func57, Tryd.ntmps57
      go_wp2_with fail
      go_quiet (fail)
      go_wp2_with fail
      go_loopw [41] (fun i wr => (∃ j : Nat, j ≤ q.length ∧ i = .int .i64 j ∧ ∀ x, x < j → (l.getD x 0 &&& m.getD x 0) = q.getD x 0) ∧ Chg Nowhere w wr) (fun i _ => q.length - (intOf i).toNat)
      case atStart => exact ⟨⟨0, by omega, rfl, fun x hx => by omega⟩, (Chg.refl _ _).drewN _⟩
      case round =>
        obtain ⟨⟨j, hj, rfl, hall⟩, hch⟩ := hrel
        rename World => wr
        by_cases hjl : j < q.length
        · obtain ⟨g, o, ea, h3⟩ := HD.out.at (by omega)
          subst ea
          have d1 := hch.cell (h3 j (by omega)) (fun h => h)
          have d2 := hch.cell (HC.out.1 j (by rw [HM.out.1]; exact hjl)) (fun h => h)
          have d3 := hch.cell (HC.out.2 j hjl) (fun h => h)
          have hp' := hch.heap HP.out (fun h => h)
          have e0 := cell_of_heap hp' 0
          have e1 := cell_of_heap hp' 1
          simp only [List.getElem?_toArray, List.getElem?_cons_succ, List.getElem?_cons_zero] at e0 e1
          have lp' := heap_lt hp'
          have hand := bits_and_u8 (l.getD j 0) (m.getD j 0)
          have l1 : (l.getD j 0).toNat < 256 := UInt8.toNat_lt _
          have l2 : (m.getD j 0).toNat < 256 := UInt8.toNat_lt _
          have l3 : (q.getD j 0).toNat < 256 := UInt8.toNat_lt _
          have l4 : (l.getD j 0 &&& m.getD j 0).toNat < 256 := UInt8.toNat_lt _
          have Hall := Lib.hid hall
          have Hch := Lib.hid hch
          have hx0 : (0 : Int) ≤ (j : Int) := by omega
          have hx1 : (j : Int) < (q.length : Int) := by omega
          have hx2 : (j : Int) < ((n : Nat) : Int) := by omega
          clear hall hch h3 hp'
          by_cases he : (l.getD j 0 &&& m.getD j 0) = q.getD j 0
          · have ex : (((l.getD j 0 &&& m.getD j 0).toNat : Int) != ((q.getD j 0).toNat : Int)) = false := by rw [he]; simp
            have He := Lib.hid he
            clear he
            generalize (l.getD j 0 &&& m.getD j 0).toNat = A at *
            generalize (l.getD j 0).toNat = X at *
            generalize (m.getD j 0).toNat = Y at *
            generalize (q.getD j 0).toNat = Z at *
            go_wp2_with fail
            go_quiet (fail)
            go_wp2_with fail
            go_roundw
            case rel => exact ⟨⟨j + 1, by omega, by go_num, fun x hx => by
              by_cases e : x = j
              · subst e; exact He.out
              · exact Hall.out x (by omega)⟩, Hch.out.drewN _⟩
            case measure => simp [intOf]; omega
          · have ex : (((l.getD j 0 &&& m.getD j 0).toNat : Int) != ((q.getD j 0).toNat : Int)) = true := by
              simp only [bne_iff_ne, ne_eq]
              exact fun e => he (UInt8.toNat_inj.1 (by omega))
            clear he
            generalize (l.getD j 0 &&& m.getD j 0).toNat = A at *
            generalize (l.getD j 0).toNat = X at *
            generalize (m.getD j 0).toNat = Y at *
            generalize (q.getD j 0).toNat = Z at *
            go_wp2_with fail
            go_quiet (fail)
            go_wp2_with fail
            go_ret
            exact ⟨rfl, Hch.out.drewN _⟩
        · obtain rfl : j = q.length := by omega
          exact absurd (mask_of m q l HM.out.1 (by omega) hall) (by rw [show Sn.maskB m q l = false from HM.out.2]; simp)
  · obtain ⟨a', hs, hd'⟩ := cut_from hd k hk
    have HM := Lib.hid (And.intro hm hB)
    clear hB hm
    have hb1 := hd'.big
    have hcp := hd'.cap
    have hln := hd'.len
    have HD := Lib.hid hd'
    by_cases hlt : n - k < q.length
    · have x1 : ((n - k : Nat) : Int) < (q.length : Int) := by omega
      clear hlt HM
      clear hp hc1 hc2 hd hd'
      go_enter Tryd.func57, Tryd.ntmps57
      go_wp2_with fail
      go_quiet (fail)
      go_wp2_with fail
      go_ret
      exact ⟨rfl, (Chg.refl _ _).drewN _⟩
    · have x1 : ¬ ((n - k : Nat) : Int) < (q.length : Int) := by omega
      clear hp hc1 hc2 hd hd'
      go_enter Tryd.func57, Tryd.ntmps57
      go_wp2_with fail
      go_quiet (fail)
      go_wp2_with fail
      go_loopw [41] (fun i wr => (∃ j : Nat, j ≤ q.length ∧ i = .int .i64 j ∧ ∀ x, x < j → ((l.drop k).getD x 0 &&& m.getD x 0) = q.getD x 0) ∧ Chg Nowhere w wr) (fun i _ => q.length - (intOf i).toNat)
      case atStart => exact ⟨⟨0, by omega, rfl, fun x hx => by omega⟩, (Chg.refl _ _).drewN _⟩
      case round =>
        obtain ⟨⟨j, hj, rfl, hall⟩, hch⟩ := hrel
        rename World => wr
        by_cases hjl : j < q.length
        · obtain ⟨g, o, ea, h3⟩ := HD.out.at (by omega)
          subst ea
          have d1 := hch.cell (h3 j (by omega)) (fun h => h)
          have d2 := hch.cell (HC.out.1 j (by rw [HM.out.1]; exact hjl)) (fun h => h)
          have d3 := hch.cell (HC.out.2 j hjl) (fun h => h)
          have hp' := hch.heap HP.out (fun h => h)
          have e0 := cell_of_heap hp' 0
          have e1 := cell_of_heap hp' 1
          simp only [List.getElem?_toArray, List.getElem?_cons_succ, List.getElem?_cons_zero] at e0 e1
          have lp' := heap_lt hp'
          have hand := bits_and_u8 ((l.drop k).getD j 0) (m.getD j 0)
          have l1 : ((l.drop k).getD j 0).toNat < 256 := UInt8.toNat_lt _
          have l2 : (m.getD j 0).toNat < 256 := UInt8.toNat_lt _
          have l3 : (q.getD j 0).toNat < 256 := UInt8.toNat_lt _
          have l4 : ((l.drop k).getD j 0 &&& m.getD j 0).toNat < 256 := UInt8.toNat_lt _
          have Hall := Lib.hid hall
          have Hch := Lib.hid hch
          have hx0 : (0 : Int) ≤ (j : Int) := by omega
          have hx1 : (j : Int) < (q.length : Int) := by omega
          have hx2 : (j : Int) < ((n - k : Nat) : Int) := by omega
          clear hall hch h3 hp'
          by_cases he : ((l.drop k).getD j 0 &&& m.getD j 0) = q.getD j 0
          · have ex : ((((l.drop k).getD j 0 &&& m.getD j 0).toNat : Int) != ((q.getD j 0).toNat : Int)) = false := by rw [he]; simp
            have He := Lib.hid he
            clear he
            generalize ((l.drop k).getD j 0 &&& m.getD j 0).toNat = A at *
            generalize ((l.drop k).getD j 0).toNat = X at *
            generalize (m.getD j 0).toNat = Y at *
            generalize (q.getD j 0).toNat = Z at *
            go_wp2_with fail
            go_quiet (fail)
            go_wp2_with fail
            go_roundw
            case rel => exact ⟨⟨j + 1, by omega, by go_num, fun x hx => by
              by_cases e : x = j
              · subst e; exact He.out
              · exact Hall.out x (by omega)⟩, Hch.out.drewN _⟩
            case measure => simp [intOf]; omega
          · have ex : ((((l.drop k).getD j 0 &&& m.getD j 0).toNat : Int) != ((q.getD j 0).toNat : Int)) = true := by
              simp only [bne_iff_ne, ne_eq]
              exact fun e => he (UInt8.toNat_inj.1 (by omega))
            clear he
            generalize ((l.drop k).getD j 0 &&& m.getD j 0).toNat = A at *
            generalize ((l.drop k).getD j 0).toNat = X at *
            generalize (m.getD j 0).toNat = Y at *
            generalize (q.getD j 0).toNat = Z at *
            go_wp2_with fail
            go_quiet (fail)
            go_wp2_with fail
            go_ret
            exact ⟨rfl, Hch.out.drewN _⟩
        · obtain rfl : j = q.length := by omega
          exact absurd (mask_of m q (l.drop k) HM.out.1 (by omega) hall) (by rw [show Sn.maskB m q (l.drop k) = false from HM.out.2]; simp)
theorem good (x : UInt8) (h : 32 ≤ x.toNat ∨ x = 9 ∨ x = 10) : 32 ≤ x.toNat ∨ x.toNat = 9 ∨ x.toNat = 10 := by
  rcases h with h | rfl | rfl
  · exact .inl h
  · exact .inr (.inl rfl)
  · exact .inr (.inr rfl)
set_option maxHeartbeats 8000000 in
theorem text62 (a : Option Addr) (n c k : Nat) (l : List UInt8) (w : World) (hd : Dat w a n c l) (hk : k ≤ n) (hg : ∀ x ∈ l.drop k, 32 ≤ x.toNat ∨ x = 9 ∨ x = 10) :
    Calls Tryd.prog 62 #[.agg #[], .slice a n c, .int .i64 k] w (StrOut [116, 101, 120, 116, 47, 112, 108, 97, 105, 110, 59, 32, 99, 104, 97, 114, 115, 101, 116, 61, 117, 116, 102, 45, 56] w) := by
  obtain ⟨a', hs, hd'⟩ := cut_from hd k hk
  have hb1 := hd.big
  have hcp := hd.cap
  have HD := Lib.hid hd'
  have HG := Lib.hid hg
  clear hd hd' hg
  go_enter Tryd.func62, Tryd.ntmps62
  go_wp2_with fail
  go_loopw [13] (fun i wr => (∃ j : Nat, j ≤ n - k ∧ i = .int .i64 j) ∧ Chg Nowhere w wr) (fun i _ => (n - k) - (intOf i).toNat)
  case atStart => exact ⟨⟨0, by omega, rfl⟩, (Chg.refl _ _).alloc _⟩
  case round =>
    obtain ⟨⟨j, hj, rfl⟩, hch⟩ := hrel
    rename World => wr
    by_cases hjl : j < n - k
    · obtain ⟨g, o, ea, h3⟩ := HD.out.at (by omega)
      subst ea
      have d1 := hch.cell (h3 j hjl) (fun h => h)
      have hlen := HD.out.len
      have hgd := good _ (HG.out ((l.drop k).getD j 0) (by rw [List.getD_eq_getElem?_getD, List.getElem?_eq_getElem (by omega)]; exact List.getElem_mem _))
      have l1 : ((l.drop k).getD j 0).toNat < 256 := UInt8.toNat_lt _
      have Hch := Lib.hid hch
      have hx0 : (0 : Int) ≤ (j : Int) := by omega
      have hx2 : (j : Int) < ((n - k : Nat) : Int) := by omega
      clear hch h3 hlen
      generalize ((l.drop k).getD j 0).toNat = X at *
      have t1 : ¬ (X : Int) ≤ 8 := by omega
      have t2 : ((X : Int) == 11) = false := by simp; omega
      by_cases h14 : (14 : Int) ≤ (X : Int)
      · have t3 : ¬ (X : Int) ≤ 26 := by omega
        have t4 : (28 : Int) ≤ (X : Int) := by omega
        have t5 : ¬ (X : Int) ≤ 31 := by omega
        clear hgd
        go_wp2_with fail
        go_roundw
        case rel => exact ⟨⟨j + 1, by omega, by go_num⟩, Hch.out⟩
        case measure => simp [intOf]; omega
      · have t4 : ¬ (28 : Int) ≤ (X : Int) := by omega
        clear hgd
        go_wp2_with fail
        go_roundw
        case rel => exact ⟨⟨j + 1, by omega, by go_num⟩, Hch.out⟩
        case measure => simp [intOf]; omega
    · have hx2 : ¬ (j : Int) < ((n - k : Nat) : Int) := by omega
      have Hch := Lib.hid hch
      clear hch
      go_wp2_with fail
      go_ret
      exact ⟨rfl, Hch.out⟩
end Go.Proofs.YtflpmhjfchpplaaDoor
