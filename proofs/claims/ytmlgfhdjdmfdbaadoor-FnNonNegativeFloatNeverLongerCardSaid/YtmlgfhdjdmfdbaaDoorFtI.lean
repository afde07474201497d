/-
  Proved: contract of fmtEFG of Go's float formatting at the shortest 'g' form without an exponent. No condition; no statement of the seat stands here.
-/
import Derived.Test.YtmlgfhdjdmfdbaaDoorFtH
namespace Go.Proofs.YtmlgfhdjdmfdbaaDoor
open Go.RowKit Go.ChangeAt Go.Sort
set_option linter.unusedSimpArgs false
set_option linter.unusedVariables false
set_option maxRecDepth 100000
set_option maxHeartbeats 8000000 in
theorem fmtF2 (w0 w : World) (vo : Option Addr) (L vc g : Nat) (out : List UInt8) (neg : Bool) (n p q : Nat) (hp : p ≤ 6) (hp1 : 1 ≤ p) (hq1 : 1 ≤ q) (hr : p + q = n) (ds : List UInt8) (hds : ds.length = n) (h1 : 1 ≤ n) (hnd : n ≤ 32) (hL : L ≤ 1000) (hR : RowD w0 w vo L vc out g ds) :
    Calls Tryd.prog 26 #[.slice vo L vc, .bool neg, .slice (some ⟨g, 0, none⟩) 32 32, .int .i64 ((p : Int)), .int .i64 n, .int .i64 n, .int .u8 103, .bool true] w (FmtOut w0 (out ++ (signB neg ++ (ds.take p ++ [46] ++ (ds.drop p).take q)))) := by
  have HR := Lib.hid hR
  have HDS := Lib.hid hds
  have y1 : ¬ (p : Int) - 1 < -4 := by omega
  have y2 : ¬ (6 : Int) ≤ (p : Int) - 1 := by omega
  have y3 : (p : Int) < (n : Int) := by omega
  have y4 : (0 : Int) < (p : Int) := by omega
  have y5 : (0 : Int) < (q : Int) := by omega
  have f2 : min (n : Int) (p : Int) = (p : Int) := by omega
  have f3 : (n : Int) - (p : Int) = (q : Int) := by omega
  have f1 : max (q : Int) 0 = (q : Int) := by omega
  have f4 : max 0 (q : Int) = (q : Int) := by omega
  have f5 : max 0 (-(p : Int)) = 0 := by omega
  have f6 : min (q : Int) 0 = 0 := by omega
  clear hR hds
  go_enter Tryd.func26, Tryd.ntmps26
  go_upto_if 178 with fail
  cases neg
  · go_wp2_with fail
    have ST1 : Hid (RowD w0 w vo (L + 0) vc (out ++ ds.take 0) g ds) := Lib.hid (by simpa using HR.out)
    go_loopw [0, 191] (fun d i wr => ∃ k : Nat, ∃ vq vcq, i = .int .i64 k ∧ k ≤ p ∧ d = .slice vq (L + k) vcq ∧ RowD w0 wr vq (L + k) vcq (out ++ ds.take k) g ds) (fun _ i _ => p - (intOf i).toNat)
    case atStart => exact ⟨0, _, _, rfl, by omega, by first | rfl | simp, ST1.out⟩
    case round =>
      obtain ⟨k1, vq1, vcq1, rfl, hk1, rfl, hr1⟩ := hrel
      rename World => wq1
      have HQ1 := Lib.hid hr1
      clear hr1
      by_cases hlt1 : k1 < p
      · have hx : (k1 : Int) < (p : Int) := by omega
        have dk := HQ1.out.dig k1 (by have := HDS.out; omega)
        have hx1 : ((k1 : Nat) : Int) < 32 := by omega
        have hx0 : (0 : Int) ≤ ((k1 : Nat) : Int) := by omega
        go_wp2_with (at_builtin; go_loud (refine wp_appB rfl (.tmp 195) (.tmp 197) rfl w0 wq1 vq1 (L + k1) vcq1 g (out ++ ds.take k1) ds [ds.getD k1 0] 1 (by rfl) _ (by first | rfl | simp [Lib.byteCells, *]) (HQ1.out) rfl _ rfl rfl (by omega) ?_; intro vo2 vc2 w2 hn; have HN2 := Lib.hid hn; clear hn))
        go_roundw
        case rel => exact ⟨k1 + 1, vo2, vc2, by go_num, by omega, rfl, by have h := HN2.out; rw [List.append_assoc, take_succ_getD ds k1 (by have := HDS.out; omega)] at h; exact h⟩
        case measure => simp [intOf]; omega
      · have hx : ¬ (k1 : Int) < (p : Int) := by omega
        have hke : k1 = p := by omega
        subst k1
        go_wp2_with fail
        go_loop [0, 203] (fun d i => d = .slice vq1 (L + p) vcq1 ∧ i = .int .i64 0) (fun _ _ => 0)
        case atStart => exact ⟨rfl, by first | rfl | go_num⟩
        case round =>
          obtain ⟨rfl, rfl⟩ := hrel
          go_wp2_with (at_builtin; go_loud (refine wp_appB rfl (.tmp 214) (.tmp 215) rfl w0 wq1 vq1 (L + p) vcq1 g (out ++ ds.take p) ds [46] 1 (by rfl) _ (by first | rfl | simp [Lib.byteCells, *]) (HQ1.out) rfl _ rfl rfl (by omega) ?_; intro vo3 vc3 w3 hn; have HN3 := Lib.hid hn; clear hn))
          go_loop [0, 240] (fun d i => d = .slice vo3 (L + p + 1) vc3 ∧ i = .int .i64 0) (fun _ _ => 0)
          case atStart => exact ⟨rfl, by first | rfl | go_num⟩
          case round =>
            obtain ⟨rfl, rfl⟩ := hrel
            go_wp2_with fail
            have ST4 : Hid (RowD w0 w3 vo3 (L + p + 1 + 0) vc3 (out ++ ds.take p ++ [46] ++ (ds.drop p).take 0) g ds) := Lib.hid (by simpa using HN3.out)
            go_loopw [0, 247] (fun d i wr => ∃ k : Nat, ∃ vq vcq, i = .int .i64 k ∧ k ≤ q ∧ d = .slice vq (L + p + 1 + k) vcq ∧ RowD w0 wr vq (L + p + 1 + k) vcq (out ++ ds.take p ++ [46] ++ (ds.drop p).take k) g ds) (fun _ i _ => q - (intOf i).toNat)
            case atStart => exact ⟨0, _, _, rfl, by omega, by first | rfl | simp, ST4.out⟩
            case round =>
              obtain ⟨k4, vq4, vcq4, rfl, hk4, rfl, hr4⟩ := hrel
              rename World => wq4
              have HQ4 := Lib.hid hr4
              clear hr4
              by_cases hlt4 : k4 < q
              · have hx : (k4 : Int) < (q : Int) := by omega
                have dk := HQ4.out.dig (p + k4) (by have := HDS.out; omega)
                have hx1 : (((p + k4) : Nat) : Int) < 32 := by omega
                have hx0 : (0 : Int) ≤ (((p + k4) : Nat) : Int) := by omega
                go_wp2_with (at_builtin; go_loud (refine wp_appB rfl (.tmp 250) (.tmp 257) rfl w0 wq4 vq4 (L + p + 1 + k4) vcq4 g (out ++ ds.take p ++ [46] ++ (ds.drop p).take k4) ds [ds.getD (p + k4) 0] 1 (by rfl) _ (by first | rfl | simp [Lib.byteCells, *]) (HQ4.out) rfl _ rfl rfl (by omega) ?_; intro vo5 vc5 w5 hn; have HN5 := Lib.hid hn; clear hn))
                go_roundw
                case rel => exact ⟨k4 + 1, vo5, vc5, by go_num, by omega, rfl, by have h := HN5.out; rw [List.append_assoc, drop_take_succ_getD ds p k4 (by have := HDS.out; omega)] at h; exact h⟩
                case measure => simp [intOf]; omega
              · have hx : ¬ (k4 : Int) < (q : Int) := by omega
                have hke : k4 = q := by omega
                subst k4
                go_wp2_with fail
                go_loop [0, 261] (fun d i => d = .slice vq4 (L + p + 1 + q) vcq4 ∧ i = .int .i64 0) (fun _ _ => 0)
                case atStart => exact ⟨rfl, by first | rfl | go_num⟩
                case round =>
                  obtain ⟨rfl, rfl⟩ := hrel
                  go_wp2_with fail
                  go_ret
                  have hr := HQ4.out.fmt
                  unfold signB
                  simpa using hr
  · go_upto_if 183 with (at_builtin; go_loud (refine wp_appB rfl (.tmp 179) (.tmp 180) rfl w0 w vo (L) vc g (out) ds [45] 1 (by rfl) _ (by first | rfl | simp [Lib.byteCells, *]) (HR.out) rfl _ rfl rfl (by omega) ?_; intro vo1 vc1 w1 hn; have HN1 := Lib.hid hn; clear hn))
    go_wp2_with fail
    have ST2 : Hid (RowD w0 w1 vo1 (L + 1 + 0) vc1 (out ++ [45] ++ ds.take 0) g ds) := Lib.hid (by simpa using HN1.out)
    go_loopw [0, 191] (fun d i wr => ∃ k : Nat, ∃ vq vcq, i = .int .i64 k ∧ k ≤ p ∧ d = .slice vq (L + 1 + k) vcq ∧ RowD w0 wr vq (L + 1 + k) vcq (out ++ [45] ++ ds.take k) g ds) (fun _ i _ => p - (intOf i).toNat)
    case atStart => exact ⟨0, _, _, rfl, by omega, by first | rfl | simp, ST2.out⟩
    case round =>
      obtain ⟨k2, vq2, vcq2, rfl, hk2, rfl, hr2⟩ := hrel
      rename World => wq2
      have HQ2 := Lib.hid hr2
      clear hr2
      by_cases hlt2 : k2 < p
      · have hx : (k2 : Int) < (p : Int) := by omega
        have dk := HQ2.out.dig k2 (by have := HDS.out; omega)
        have hx1 : ((k2 : Nat) : Int) < 32 := by omega
        have hx0 : (0 : Int) ≤ ((k2 : Nat) : Int) := by omega
        go_wp2_with (at_builtin; go_loud (refine wp_appB rfl (.tmp 195) (.tmp 197) rfl w0 wq2 vq2 (L + 1 + k2) vcq2 g (out ++ [45] ++ ds.take k2) ds [ds.getD k2 0] 1 (by rfl) _ (by first | rfl | simp [Lib.byteCells, *]) (HQ2.out) rfl _ rfl rfl (by omega) ?_; intro vo3 vc3 w3 hn; have HN3 := Lib.hid hn; clear hn))
        go_roundw
        case rel => exact ⟨k2 + 1, vo3, vc3, by go_num, by omega, rfl, by have h := HN3.out; rw [List.append_assoc, take_succ_getD ds k2 (by have := HDS.out; omega)] at h; exact h⟩
        case measure => simp [intOf]; omega
      · have hx : ¬ (k2 : Int) < (p : Int) := by omega
        have hke : k2 = p := by omega
        subst k2
        go_wp2_with fail
        go_loop [0, 203] (fun d i => d = .slice vq2 (L + 1 + p) vcq2 ∧ i = .int .i64 0) (fun _ _ => 0)
        case atStart => exact ⟨rfl, by first | rfl | go_num⟩
        case round =>
          obtain ⟨rfl, rfl⟩ := hrel
          go_wp2_with (at_builtin; go_loud (refine wp_appB rfl (.tmp 214) (.tmp 215) rfl w0 wq2 vq2 (L + 1 + p) vcq2 g (out ++ [45] ++ ds.take p) ds [46] 1 (by rfl) _ (by first | rfl | simp [Lib.byteCells, *]) (HQ2.out) rfl _ rfl rfl (by omega) ?_; intro vo4 vc4 w4 hn; have HN4 := Lib.hid hn; clear hn))
          go_loop [0, 240] (fun d i => d = .slice vo4 (L + 1 + p + 1) vc4 ∧ i = .int .i64 0) (fun _ _ => 0)
          case atStart => exact ⟨rfl, by first | rfl | go_num⟩
          case round =>
            obtain ⟨rfl, rfl⟩ := hrel
            go_wp2_with fail
            have ST5 : Hid (RowD w0 w4 vo4 (L + 1 + p + 1 + 0) vc4 (out ++ [45] ++ ds.take p ++ [46] ++ (ds.drop p).take 0) g ds) := Lib.hid (by simpa using HN4.out)
            go_loopw [0, 247] (fun d i wr => ∃ k : Nat, ∃ vq vcq, i = .int .i64 k ∧ k ≤ q ∧ d = .slice vq (L + 1 + p + 1 + k) vcq ∧ RowD w0 wr vq (L + 1 + p + 1 + k) vcq (out ++ [45] ++ ds.take p ++ [46] ++ (ds.drop p).take k) g ds) (fun _ i _ => q - (intOf i).toNat)
            case atStart => exact ⟨0, _, _, rfl, by omega, by first | rfl | simp, ST5.out⟩
            case round =>
              obtain ⟨k5, vq5, vcq5, rfl, hk5, rfl, hr5⟩ := hrel
              rename World => wq5
              have HQ5 := Lib.hid hr5
              clear hr5
              by_cases hlt5 : k5 < q
              · have hx : (k5 : Int) < (q : Int) := by omega
                have dk := HQ5.out.dig (p + k5) (by have := HDS.out; omega)
                have hx1 : (((p + k5) : Nat) : Int) < 32 := by omega
                have hx0 : (0 : Int) ≤ (((p + k5) : Nat) : Int) := by omega
                go_wp2_with (at_builtin; go_loud (refine wp_appB rfl (.tmp 250) (.tmp 257) rfl w0 wq5 vq5 (L + 1 + p + 1 + k5) vcq5 g (out ++ [45] ++ ds.take p ++ [46] ++ (ds.drop p).take k5) ds [ds.getD (p + k5) 0] 1 (by rfl) _ (by first | rfl | simp [Lib.byteCells, *]) (HQ5.out) rfl _ rfl rfl (by omega) ?_; intro vo6 vc6 w6 hn; have HN6 := Lib.hid hn; clear hn))
                go_roundw
                case rel => exact ⟨k5 + 1, vo6, vc6, by go_num, by omega, rfl, by have h := HN6.out; rw [List.append_assoc, drop_take_succ_getD ds p k5 (by have := HDS.out; omega)] at h; exact h⟩
                case measure => simp [intOf]; omega
              · have hx : ¬ (k5 : Int) < (q : Int) := by omega
                have hke : k5 = q := by omega
                subst k5
                go_wp2_with fail
                go_loop [0, 261] (fun d i => d = .slice vq5 (L + 1 + p + 1 + q) vcq5 ∧ i = .int .i64 0) (fun _ _ => 0)
                case atStart => exact ⟨rfl, by first | rfl | go_num⟩
                case round =>
                  obtain ⟨rfl, rfl⟩ := hrel
                  go_wp2_with fail
                  go_ret
                  have hr := HQ5.out.fmt
                  unfold signB
                  simpa using hr
end Go.Proofs.YtmlgfhdjdmfdbaaDoor
