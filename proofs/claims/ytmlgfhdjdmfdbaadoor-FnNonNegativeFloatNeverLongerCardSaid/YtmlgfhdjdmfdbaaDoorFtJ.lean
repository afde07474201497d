/-
  Proved: contract of fmtEFG of Go's float formatting at the shortest 'g' form without an exponent. No condition; no statement of the seat stands here.
-/
import Derived.Test.YtmlgfhdjdmfdbaaDoorFtH
namespace Go.Proofs.YtmlgfhdjdmfdbaaDoor
open Go.RowKit Go.ChangeAt Go.Sort
set_option linter.unusedSimpArgs false
set_option linter.unusedVariables false
set_option maxRecDepth 100000
set_option maxHeartbeats 8000000 in
theorem fmtF3 (w0 w : World) (vo : Option Addr) (L vc g : Nat) (out : List UInt8) (neg : Bool) (n z t : Nat) (hz : z ≤ 3) (ht : n + z = t) (ds : List UInt8) (hds : ds.length = n) (h1 : 1 ≤ n) (hnd : n ≤ 32) (hL : L ≤ 1000) (hR : RowD w0 w vo L vc out g ds) :
    Calls Tryd.prog 26 #[.slice vo L vc, .bool neg, .slice (some ⟨g, 0, none⟩) 32 32, .int .i64 (-(z : Int)), .int .i64 n, .int .i64 n, .int .u8 103, .bool true] w (FmtOut w0 (out ++ (signB neg ++ ([48, 46] ++ List.replicate z (48 : UInt8) ++ ds.take n)))) := by
  have HR := Lib.hid hR
  have HDS := Lib.hid hds
  have y1 : ¬ -(z : Int) - 1 < -4 := by omega
  have y2 : ¬ (6 : Int) ≤ -(z : Int) - 1 := by omega
  have y3 : -(z : Int) < (n : Int) := by omega
  have y4 : ¬ (0 : Int) < -(z : Int) := by omega
  have y5 : (0 : Int) < (t : Int) := by omega
  have f3 : (n : Int) + (z : Int) = (t : Int) := by omega
  have f1 : max (t : Int) 0 = (t : Int) := by omega
  have f4 : max 0 (z : Int) = (z : Int) := by omega
  have f5 : min (t : Int) (z : Int) = (z : Int) := by omega
  have f6 : (t : Int) - (z : Int) = (n : Int) := by omega
  have f7 : max 0 (n : Int) = (n : Int) := by omega
  have f8 : -(z : Int) + (z : Int) = 0 := by omega
  clear hR hds
  go_enter Tryd.func26, Tryd.ntmps26
  go_upto_if 178 with fail
  cases neg
  · go_wp2_with (first | (at_builtin; go_loud (refine wp_appB rfl (.tmp 209) (.tmp 210) rfl w0 w vo (L) vc g (out) ds [48] 1 (by rfl) _ (by first | rfl | simp [Lib.byteCells, *]) (HR.out) rfl _ rfl rfl (by omega) ?_; intro vo1 vc1 w1 hn; have HN1 := Lib.hid hn; clear hn)) | (at_builtin; go_loud (refine wp_appB rfl (.tmp 214) (.tmp 215) rfl w0 w1 vo1 (L + 1) vc1 g (out ++ [48]) ds [46] 1 (by rfl) _ (by first | rfl | simp [Lib.byteCells, *]) (HN1.out) rfl _ rfl rfl (by omega) ?_; intro vo2 vc2 w2 hn; have HN2 := Lib.hid hn; clear hn)))
    have ST3 : Hid (RowD w0 w2 vo2 (L + 1 + 1 + 0) vc2 (out ++ [48] ++ [46] ++ List.replicate 0 (48 : UInt8)) g ds) := Lib.hid (by simpa using HN2.out)
    go_loopw [0, 240] (fun d i wr => ∃ k : Nat, ∃ vq vcq, i = .int .i64 k ∧ k ≤ z ∧ d = .slice vq (L + 1 + 1 + k) vcq ∧ RowD w0 wr vq (L + 1 + 1 + k) vcq (out ++ [48] ++ [46] ++ List.replicate k (48 : UInt8)) g ds) (fun _ i _ => z - (intOf i).toNat)
    case atStart => exact ⟨0, _, _, rfl, by omega, by first | rfl | simp, ST3.out⟩
    case round =>
      obtain ⟨k3, vq3, vcq3, rfl, hk3, rfl, hr3⟩ := hrel
      rename World => wq3
      have HQ3 := Lib.hid hr3
      clear hr3
      by_cases hlt3 : k3 < z
      · have hx : (k3 : Int) < (z : Int) := by omega
        go_wp2_with (at_builtin; go_loud (refine wp_appB rfl (.tmp 242) (.tmp 243) rfl w0 wq3 vq3 (L + 1 + 1 + k3) vcq3 g (out ++ [48] ++ [46] ++ List.replicate k3 (48 : UInt8)) ds [48] 1 (by rfl) _ (by first | rfl | simp [Lib.byteCells, *]) (HQ3.out) rfl _ rfl rfl (by omega) ?_; intro vo4 vc4 w4 hn; have HN4 := Lib.hid hn; clear hn))
        go_roundw
        case rel => exact ⟨k3 + 1, vo4, vc4, by go_num, by omega, rfl, by have h := HN4.out; rw [List.append_assoc, rep_succ k3] at h; exact h⟩
        case measure => simp [intOf]; omega
      · have hx : ¬ (k3 : Int) < (z : Int) := by omega
        have hke : k3 = z := by omega
        subst k3
        go_wp2_with fail
        have ST5 : Hid (RowD w0 wq3 vq3 (L + 1 + 1 + z + 0) vcq3 (out ++ [48] ++ [46] ++ List.replicate z (48 : UInt8) ++ ds.take 0) g ds) := Lib.hid (by simpa using HQ3.out)
        go_loopw [0, 247] (fun d i wr => ∃ k : Nat, ∃ vq vcq, i = .int .i64 k ∧ k ≤ n ∧ d = .slice vq (L + 1 + 1 + z + k) vcq ∧ RowD w0 wr vq (L + 1 + 1 + z + k) vcq (out ++ [48] ++ [46] ++ List.replicate z (48 : UInt8) ++ ds.take k) g ds) (fun _ i _ => n - (intOf i).toNat)
        case atStart => exact ⟨0, _, _, rfl, by omega, by first | rfl | simp, ST5.out⟩
        case round =>
          obtain ⟨k5, vq5, vcq5, rfl, hk5, rfl, hr5⟩ := hrel
          rename World => wq5
          have HQ5 := Lib.hid hr5
          clear hr5
          by_cases hlt5 : k5 < n
          · have hx : (k5 : Int) < (n : Int) := by omega
            have dk := HQ5.out.dig k5 (by have := HDS.out; omega)
            have hx1 : ((k5 : Nat) : Int) < 32 := by omega
            have hx0 : (0 : Int) ≤ ((k5 : Nat) : Int) := by omega
            go_wp2_with (at_builtin; go_loud (refine wp_appB rfl (.tmp 250) (.tmp 257) rfl w0 wq5 vq5 (L + 1 + 1 + z + k5) vcq5 g (out ++ [48] ++ [46] ++ List.replicate z (48 : UInt8) ++ ds.take k5) ds [ds.getD k5 0] 1 (by rfl) _ (by first | rfl | simp [Lib.byteCells, *]) (HQ5.out) rfl _ rfl rfl (by omega) ?_; intro vo6 vc6 w6 hn; have HN6 := Lib.hid hn; clear hn))
            go_roundw
            case rel => exact ⟨k5 + 1, vo6, vc6, by go_num, by omega, rfl, by have h := HN6.out; rw [List.append_assoc, take_succ_getD ds k5 (by have := HDS.out; omega)] at h; exact h⟩
            case measure => simp [intOf]; omega
          · have hx : ¬ (k5 : Int) < (n : Int) := by omega
            have hke : k5 = n := by omega
            subst k5
            go_wp2_with fail
            go_loop [0, 261] (fun d i => d = .slice vq5 (L + 1 + 1 + z + n) vcq5 ∧ i = .int .i64 0) (fun _ _ => 0)
            case atStart => exact ⟨rfl, by first | rfl | go_num⟩
            case round =>
              obtain ⟨rfl, rfl⟩ := hrel
              go_wp2_with fail
              go_ret
              have hr := HQ5.out.fmt
              unfold signB
              simpa using hr
  · go_upto_if 183 with (at_builtin; go_loud (refine wp_appB rfl (.tmp 179) (.tmp 180) rfl w0 w vo (L) vc g (out) ds [45] 1 (by rfl) _ (by first | rfl | simp [Lib.byteCells, *]) (HR.out) rfl _ rfl rfl (by omega) ?_; intro vo1 vc1 w1 hn; have HN1 := Lib.hid hn; clear hn))
    go_wp2_with (first | (at_builtin; go_loud (refine wp_appB rfl (.tmp 209) (.tmp 210) rfl w0 w1 vo1 (L + 1) vc1 g (out ++ [45]) ds [48] 1 (by rfl) _ (by first | rfl | simp [Lib.byteCells, *]) (HN1.out) rfl _ rfl rfl (by omega) ?_; intro vo2 vc2 w2 hn; have HN2 := Lib.hid hn; clear hn)) | (at_builtin; go_loud (refine wp_appB rfl (.tmp 214) (.tmp 215) rfl w0 w2 vo2 (L + 1 + 1) vc2 g (out ++ [45] ++ [48]) ds [46] 1 (by rfl) _ (by first | rfl | simp [Lib.byteCells, *]) (HN2.out) rfl _ rfl rfl (by omega) ?_; intro vo3 vc3 w3 hn; have HN3 := Lib.hid hn; clear hn)))
    have ST4 : Hid (RowD w0 w3 vo3 (L + 1 + 1 + 1 + 0) vc3 (out ++ [45] ++ [48] ++ [46] ++ List.replicate 0 (48 : UInt8)) g ds) := Lib.hid (by simpa using HN3.out)
    go_loopw [0, 240] (fun d i wr => ∃ k : Nat, ∃ vq vcq, i = .int .i64 k ∧ k ≤ z ∧ d = .slice vq (L + 1 + 1 + 1 + k) vcq ∧ RowD w0 wr vq (L + 1 + 1 + 1 + k) vcq (out ++ [45] ++ [48] ++ [46] ++ List.replicate k (48 : UInt8)) g ds) (fun _ i _ => z - (intOf i).toNat)
    case atStart => exact ⟨0, _, _, rfl, by omega, by first | rfl | simp, ST4.out⟩
    case round =>
      obtain ⟨k4, vq4, vcq4, rfl, hk4, rfl, hr4⟩ := hrel
      rename World => wq4
      have HQ4 := Lib.hid hr4
      clear hr4
      by_cases hlt4 : k4 < z
      · have hx : (k4 : Int) < (z : Int) := by omega
        go_wp2_with (at_builtin; go_loud (refine wp_appB rfl (.tmp 242) (.tmp 243) rfl w0 wq4 vq4 (L + 1 + 1 + 1 + k4) vcq4 g (out ++ [45] ++ [48] ++ [46] ++ List.replicate k4 (48 : UInt8)) ds [48] 1 (by rfl) _ (by first | rfl | simp [Lib.byteCells, *]) (HQ4.out) rfl _ rfl rfl (by omega) ?_; intro vo5 vc5 w5 hn; have HN5 := Lib.hid hn; clear hn))
        go_roundw
        case rel => exact ⟨k4 + 1, vo5, vc5, by go_num, by omega, rfl, by have h := HN5.out; rw [List.append_assoc, rep_succ k4] at h; exact h⟩
        case measure => simp [intOf]; omega
      · have hx : ¬ (k4 : Int) < (z : Int) := by omega
        have hke : k4 = z := by omega
        subst k4
        go_wp2_with fail
        have ST6 : Hid (RowD w0 wq4 vq4 (L + 1 + 1 + 1 + z + 0) vcq4 (out ++ [45] ++ [48] ++ [46] ++ List.replicate z (48 : UInt8) ++ ds.take 0) g ds) := Lib.hid (by simpa using HQ4.out)
        go_loopw [0, 247] (fun d i wr => ∃ k : Nat, ∃ vq vcq, i = .int .i64 k ∧ k ≤ n ∧ d = .slice vq (L + 1 + 1 + 1 + z + k) vcq ∧ RowD w0 wr vq (L + 1 + 1 + 1 + z + k) vcq (out ++ [45] ++ [48] ++ [46] ++ List.replicate z (48 : UInt8) ++ ds.take k) g ds) (fun _ i _ => n - (intOf i).toNat)
        case atStart => exact ⟨0, _, _, rfl, by omega, by first | rfl | simp, ST6.out⟩
        case round =>
          obtain ⟨k6, vq6, vcq6, rfl, hk6, rfl, hr6⟩ := hrel
          rename World => wq6
          have HQ6 := Lib.hid hr6
          clear hr6
          by_cases hlt6 : k6 < n
          · have hx : (k6 : Int) < (n : Int) := by omega
            have dk := HQ6.out.dig k6 (by have := HDS.out; omega)
            have hx1 : ((k6 : Nat) : Int) < 32 := by omega
            have hx0 : (0 : Int) ≤ ((k6 : Nat) : Int) := by omega
            go_wp2_with (at_builtin; go_loud (refine wp_appB rfl (.tmp 250) (.tmp 257) rfl w0 wq6 vq6 (L + 1 + 1 + 1 + z + k6) vcq6 g (out ++ [45] ++ [48] ++ [46] ++ List.replicate z (48 : UInt8) ++ ds.take k6) ds [ds.getD k6 0] 1 (by rfl) _ (by first | rfl | simp [Lib.byteCells, *]) (HQ6.out) rfl _ rfl rfl (by omega) ?_; intro vo7 vc7 w7 hn; have HN7 := Lib.hid hn; clear hn))
            go_roundw
            case rel => exact ⟨k6 + 1, vo7, vc7, by go_num, by omega, rfl, by have h := HN7.out; rw [List.append_assoc, take_succ_getD ds k6 (by have := HDS.out; omega)] at h; exact h⟩
            case measure => simp [intOf]; omega
          · have hx : ¬ (k6 : Int) < (n : Int) := by omega
            have hke : k6 = n := by omega
            subst k6
            go_wp2_with fail
            go_loop [0, 261] (fun d i => d = .slice vq6 (L + 1 + 1 + 1 + z + n) vcq6 ∧ i = .int .i64 0) (fun _ _ => 0)
            case atStart => exact ⟨rfl, by first | rfl | go_num⟩
            case round =>
              obtain ⟨rfl, rfl⟩ := hrel
              go_wp2_with fail
              go_ret
              have hr := HQ6.out.fmt
              unfold signB
              simpa using hr
end Go.Proofs.YtmlgfhdjdmfdbaaDoor
