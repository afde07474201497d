/-
  Proved: contract of fmtEFG of Go's float formatting at the shortest 'g' form without an exponent. No condition; no statement of the seat stands here.
-/
import Derived.Test.YtmlgfhdjdmfdbaaDoorFtF
namespace Go.Proofs.YtmlgfhdjdmfdbaaDoor
open Go.RowKit Go.ChangeAt Go.Sort
set_option linter.unusedSimpArgs false
set_option linter.unusedVariables false
set_option maxRecDepth 100000
theorem take_succ_getD (ds : List UInt8) (k : Nat) (h : k < ds.length) : ds.take k ++ [ds.getD k 0] = ds.take (k + 1) := by
  rw [List.getD_eq_getElem?_getD, List.getElem?_eq_getElem h, Option.getD_some, List.take_append_getElem h]
theorem drop_take_succ_getD (ds : List UInt8) (f k : Nat) (h : f + k < ds.length) : (ds.drop f).take k ++ [ds.getD (f + k) 0] = (ds.drop f).take (k + 1) := by
  have h2 : k < (ds.drop f).length := by simp; omega
  rw [← take_succ_getD (ds.drop f) k h2]
  simp
theorem rep_succ (k : Nat) : List.replicate k (48 : UInt8) ++ [48] = List.replicate (k + 1) 48 := by rw [List.replicate_succ']
set_option maxHeartbeats 8000000 in
theorem fmtF1 (w0 w : World) (vo : Option Addr) (L vc g : Nat) (out : List UInt8) (neg : Bool) (n p r : Nat) (hp : p ≤ 6) (hr : n + r = p) (ds : List UInt8) (hds : ds.length = n) (h1 : 1 ≤ n) (hnd : n ≤ 32) (hL : L ≤ 1000) (hR : RowD w0 w vo L vc out g ds) :
    Calls Tryd.prog 26 #[.slice vo L vc, .bool neg, .slice (some ⟨g, 0, none⟩) 32 32, .int .i64 ((p : Int)), .int .i64 n, .int .i64 n, .int .u8 103, .bool true] w (FmtOut w0 (out ++ (signB neg ++ (ds.take n ++ List.replicate r (48 : UInt8))))) := by
  have HR := Lib.hid hR
  have HDS := Lib.hid hds
  have y1 : ¬ (p : Int) - 1 < -4 := by omega
  have y2 : ¬ (6 : Int) ≤ (p : Int) - 1 := by omega
  have y3 : ¬ (p : Int) < (n : Int) := by omega
  have y4 : (0 : Int) < (p : Int) := by omega
  have f1 : max ((n : Int) - (p : Int)) 0 = 0 := by omega
  have f2 : min (n : Int) (p : Int) = (n : Int) := by omega
  have f3 : (p : Int) - (n : Int) = (r : Int) := by omega
  clear hR hds
  go_enter Tryd.func26, Tryd.ntmps26
  go_upto_if 178 with fail
  cases neg
  · go_wp2_with fail
    have ST1 : Hid (RowD w0 w vo (L + 0) vc (out ++ ds.take 0) g ds) := Lib.hid (by simpa using HR.out)
    go_loopw [0, 191] (fun d i wr => ∃ k : Nat, ∃ vq vcq, i = .int .i64 k ∧ k ≤ n ∧ d = .slice vq (L + k) vcq ∧ RowD w0 wr vq (L + k) vcq (out ++ ds.take k) g ds) (fun _ i _ => n - (intOf i).toNat)
    case atStart => exact ⟨0, _, _, rfl, by omega, by first | rfl | simp, ST1.out⟩
    case round =>
      obtain ⟨k1, vq1, vcq1, rfl, hk1, rfl, hr1⟩ := hrel
      rename World => wq1
      have HQ1 := Lib.hid hr1
      clear hr1
      by_cases hlt1 : k1 < n
      · have hx : (k1 : Int) < (n : Int) := by omega
        have dk := HQ1.out.dig k1 (by have := HDS.out; omega)
        have hx1 : ((k1 : Nat) : Int) < 32 := by omega
        have hx0 : (0 : Int) ≤ ((k1 : Nat) : Int) := by omega
        go_wp2_with (at_builtin; go_loud (refine wp_appB rfl (.tmp 195) (.tmp 197) rfl w0 wq1 vq1 (L + k1) vcq1 g (out ++ ds.take k1) ds [ds.getD k1 0] 1 (by rfl) _ (by first | rfl | simp [Lib.byteCells, *]) (HQ1.out) rfl _ rfl rfl (by omega) ?_; intro vo2 vc2 w2 hn; have HN2 := Lib.hid hn; clear hn))
        go_roundw
        case rel => exact ⟨k1 + 1, vo2, vc2, by go_num, by omega, rfl, by have h := HN2.out; rw [List.append_assoc, take_succ_getD ds k1 (by have := HDS.out; omega)] at h; exact h⟩
        case measure => simp [intOf]; omega
      · have hx : ¬ (k1 : Int) < (n : Int) := by omega
        have hke : k1 = n := by omega
        subst k1
        go_wp2_with fail
        have ST3 : Hid (RowD w0 wq1 vq1 (L + n + 0) vcq1 (out ++ ds.take n ++ List.replicate 0 (48 : UInt8)) g ds) := Lib.hid (by simpa using HQ1.out)
        go_loopw [0, 203] (fun d i wr => ∃ k : Nat, ∃ vq vcq, i = .int .i64 k ∧ k ≤ r ∧ d = .slice vq (L + n + k) vcq ∧ RowD w0 wr vq (L + n + k) vcq (out ++ ds.take n ++ List.replicate k (48 : UInt8)) g ds) (fun _ i _ => r - (intOf i).toNat)
        case atStart => exact ⟨0, _, _, rfl, by omega, by first | rfl | simp, ST3.out⟩
        case round =>
          obtain ⟨k3, vq3, vcq3, rfl, hk3, rfl, hr3⟩ := hrel
          rename World => wq3
          have HQ3 := Lib.hid hr3
          clear hr3
          by_cases hlt3 : k3 < r
          · have hx : (k3 : Int) < (r : Int) := by omega
            go_wp2_with (at_builtin; go_loud (refine wp_appB rfl (.tmp 205) (.tmp 206) rfl w0 wq3 vq3 (L + n + k3) vcq3 g (out ++ ds.take n ++ List.replicate k3 (48 : UInt8)) ds [48] 1 (by rfl) _ (by first | rfl | simp [Lib.byteCells, *]) (HQ3.out) rfl _ rfl rfl (by omega) ?_; intro vo4 vc4 w4 hn; have HN4 := Lib.hid hn; clear hn))
            go_roundw
            case rel => exact ⟨k3 + 1, vo4, vc4, by go_num, by omega, rfl, by have h := HN4.out; rw [List.append_assoc, rep_succ k3] at h; exact h⟩
            case measure => simp [intOf]; omega
          · have hx : ¬ (k3 : Int) < (r : Int) := by omega
            have hke : k3 = r := by omega
            subst k3
            go_wp2_with fail
            go_ret
            have hr := HQ3.out.fmt
            unfold signB
            simpa using hr
  · go_upto_if 183 with (at_builtin; go_loud (refine wp_appB rfl (.tmp 179) (.tmp 180) rfl w0 w vo (L) vc g (out) ds [45] 1 (by rfl) _ (by first | rfl | simp [Lib.byteCells, *]) (HR.out) rfl _ rfl rfl (by omega) ?_; intro vo1 vc1 w1 hn; have HN1 := Lib.hid hn; clear hn))
    go_wp2_with fail
    have ST2 : Hid (RowD w0 w1 vo1 (L + 1 + 0) vc1 (out ++ [45] ++ ds.take 0) g ds) := Lib.hid (by simpa using HN1.out)
    go_loopw [0, 191] (fun d i wr => ∃ k : Nat, ∃ vq vcq, i = .int .i64 k ∧ k ≤ n ∧ d = .slice vq (L + 1 + k) vcq ∧ RowD w0 wr vq (L + 1 + k) vcq (out ++ [45] ++ ds.take k) g ds) (fun _ i _ => n - (intOf i).toNat)
    case atStart => exact ⟨0, _, _, rfl, by omega, by first | rfl | simp, ST2.out⟩
    case round =>
      obtain ⟨k2, vq2, vcq2, rfl, hk2, rfl, hr2⟩ := hrel
      rename World => wq2
      have HQ2 := Lib.hid hr2
      clear hr2
      by_cases hlt2 : k2 < n
      · have hx : (k2 : Int) < (n : Int) := by omega
        have dk := HQ2.out.dig k2 (by have := HDS.out; omega)
        have hx1 : ((k2 : Nat) : Int) < 32 := by omega
        have hx0 : (0 : Int) ≤ ((k2 : Nat) : Int) := by omega
        go_wp2_with (at_builtin; go_loud (refine wp_appB rfl (.tmp 195) (.tmp 197) rfl w0 wq2 vq2 (L + 1 + k2) vcq2 g (out ++ [45] ++ ds.take k2) ds [ds.getD k2 0] 1 (by rfl) _ (by first | rfl | simp [Lib.byteCells, *]) (HQ2.out) rfl _ rfl rfl (by omega) ?_; intro vo3 vc3 w3 hn; have HN3 := Lib.hid hn; clear hn))
        go_roundw
        case rel => exact ⟨k2 + 1, vo3, vc3, by go_num, by omega, rfl, by have h := HN3.out; rw [List.append_assoc, take_succ_getD ds k2 (by have := HDS.out; omega)] at h; exact h⟩
        case measure => simp [intOf]; omega
      · have hx : ¬ (k2 : Int) < (n : Int) := by omega
        have hke : k2 = n := by omega
        subst k2
        go_wp2_with fail
        have ST4 : Hid (RowD w0 wq2 vq2 (L + 1 + n + 0) vcq2 (out ++ [45] ++ ds.take n ++ List.replicate 0 (48 : UInt8)) g ds) := Lib.hid (by simpa using HQ2.out)
        go_loopw [0, 203] (fun d i wr => ∃ k : Nat, ∃ vq vcq, i = .int .i64 k ∧ k ≤ r ∧ d = .slice vq (L + 1 + n + k) vcq ∧ RowD w0 wr vq (L + 1 + n + k) vcq (out ++ [45] ++ ds.take n ++ List.replicate k (48 : UInt8)) g ds) (fun _ i _ => r - (intOf i).toNat)
        case atStart => exact ⟨0, _, _, rfl, by omega, by first | rfl | simp, ST4.out⟩
        case round =>
          obtain ⟨k4, vq4, vcq4, rfl, hk4, rfl, hr4⟩ := hrel
          rename World => wq4
          have HQ4 := Lib.hid hr4
          clear hr4
          by_cases hlt4 : k4 < r
          · have hx : (k4 : Int) < (r : Int) := by omega
            go_wp2_with (at_builtin; go_loud (refine wp_appB rfl (.tmp 205) (.tmp 206) rfl w0 wq4 vq4 (L + 1 + n + k4) vcq4 g (out ++ [45] ++ ds.take n ++ List.replicate k4 (48 : UInt8)) ds [48] 1 (by rfl) _ (by first | rfl | simp [Lib.byteCells, *]) (HQ4.out) rfl _ rfl rfl (by omega) ?_; intro vo5 vc5 w5 hn; have HN5 := Lib.hid hn; clear hn))
            go_roundw
            case rel => exact ⟨k4 + 1, vo5, vc5, by go_num, by omega, rfl, by have h := HN5.out; rw [List.append_assoc, rep_succ k4] at h; exact h⟩
            case measure => simp [intOf]; omega
          · have hx : ¬ (k4 : Int) < (r : Int) := by omega
            have hke : k4 = r := by omega
            subst k4
            go_wp2_with fail
            go_ret
            have hr := HQ4.out.fmt
            unfold signB
            simpa using hr
end Go.Proofs.YtmlgfhdjdmfdbaaDoor
