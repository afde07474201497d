/-
  Proved: contract of fmtEFG of Go's float formatting at the shortest 'g' form with an exponent. No condition; no statement of the seat stands here.
-/
import Derived.Test.YtmlgfhdjdmfdbaaDoorFtE
namespace Go.Proofs.YtmlgfhdjdmfdbaaDoor
open Go.RowKit Go.ChangeAt Go.Sort
set_option linter.unusedSimpArgs false
set_option linter.unusedVariables false
set_option maxRecDepth 100000
def signB (neg : Bool) : List UInt8 := if neg then [45] else []
def dgt (x : Nat) : UInt8 := UInt8.ofNat (48 + x)
/-- The exponent's digits: two at least. -/
def expD (x : Nat) : List UInt8 := if x < 10 then [48, dgt x] else if x < 100 then [dgt (x / 10), dgt (x % 10)] else [dgt (x / 100), dgt (x / 10 % 10), dgt (x % 10)]
def fracE (ds : List UInt8) : List UInt8 := if ds.length ≤ 1 then [] else 46 :: ds.drop 1
def txtE (neg : Bool) (ds : List UInt8) (sg : UInt8) (x : Nat) : List UInt8 := signB neg ++ [ds.getD 0 0] ++ fracE ds ++ [101] ++ [sg] ++ expD x
def FmtOut (w0 : World) (out : List UInt8) (e : Ending) (w' : World) : Prop := ∃ vo L vc, e = .returned (.slice vo L vc) ∧ L = out.length ∧ w'.ownsRow w0.heap.size 5 1 (.slice vo L vc) L (Lib.byteCells out) ∧ Chg Nowhere w0 w'
theorem RowD.fmt {w0 wr : World} {vo : Option Addr} {L vc g : Nat} {out ds : List UInt8} (h : RowD w0 wr vo L vc out g ds) : FmtOut w0 out (.returned (.slice vo L vc)) wr := ⟨vo, L, vc, rfl, h.len, h.own, h.chg⟩
theorem dgt_val (x : Nat) (h : x < 10) : ((dgt x).toNat : Int) = 48 + (x : Int) := by unfold dgt; rw [UInt8.toNat_ofNat']; omega
set_option maxHeartbeats 8000000 in
theorem fmtE_pos (w0 w : World) (vo : Option Addr) (L vc g : Nat) (out : List UInt8) (neg : Bool) (n1 x : Nat) (ds : List UInt8) (hds : ds.length = n1 + 1) (hnd : n1 + 1 ≤ 32) (hx : 6 ≤ x) (hx2 : x ≤ 900) (hL : L ≤ 1000) (hR : RowD w0 w vo L vc out g ds) :
    Calls Tryd.prog 26 #[.slice vo L vc, .bool neg, .slice (some ⟨g, 0, none⟩) 32 32, .int .i64 ((x : Int) + 1), .int .i64 (n1 + 1), .int .i64 (n1 + 1), .int .u8 103, .bool true] w (FmtOut w0 (out ++ txtE neg ds 43 x)) := by
  have HR := Lib.hid hR
  have HDS := Lib.hid hds
  have d0 := hR.dig 0 (by omega)
  have x3 : ((n1 : Int) + 1 != 0) = true := by simp; omega
  have y1 : ¬ (x : Int) < -4 := by omega
  have y2 : (6 : Int) ≤ (x : Int) := by omega
  have y3 : ¬ (x : Int) < 0 := by omega
  clear hR hds
  go_enter Tryd.func26, Tryd.ntmps26
  go_upto_if 78 with fail
  cases neg
  · go_upto_if 92 with (at_builtin; go_loud (refine wp_appB rfl (.tmp 87) (.tmp 89) rfl w0 w vo L vc g out ds [ds.getD 0 0] 1 (by rfl) _ (by first | rfl | simp [Lib.byteCells, *]) (HR.out) rfl _ rfl rfl (by omega) ?_; intro vob vcb wb hn; have HNb := Lib.hid hn; clear hn))
    by_cases hn : n1 = 0
    · have x4 : ¬ (0 : Int) < (n1 : Int) := by omega
      have hf : fracE ds = [] := by unfold fracE; rw [if_pos (by have := HDS.out; omega)]
      have HF := Lib.hid hf
      clear hn hf
      have hx10 : x < 10 ∨ (10 ≤ x ∧ x < 100) ∨ 100 ≤ x := by omega
      rcases hx10 with h | h | h
      · have t1 : (x : Int) < 10 := by omega
        have k1 : (x : Int) + 48 = ((dgt x).toNat : Int) := by rw [dgt_val x (by omega)]; omega
        go_wp2_with (first | (at_builtin; go_loud (refine wp_appB rfl (.tmp 120) (.tmp 122) rfl w0 wb vob (L + 1) vcb g (out ++ [ds.getD 0 0]) ds [101] 1 (by rfl) _ (by first | rfl | simp [Lib.byteCells, *]) (HNb.out) rfl _ rfl rfl (by omega) ?_; intro voe vce we hn; have HNe := Lib.hid hn; clear hn)) | (at_builtin; go_loud (refine wp_appB rfl (.tmp 132) (.tmp 134) rfl w0 we voe ((L + 1) + 1) vce g ((out ++ [ds.getD 0 0]) ++ [101]) ds [43] 1 (by rfl) _ (by first | rfl | simp [Lib.byteCells, *]) (HNe.out) rfl _ rfl rfl (by omega) ?_; intro vof vcf wf hn; have HNf := Lib.hid hn; clear hn)) | (at_builtin; go_loud (refine wp_appB rfl (.tmp 155) (.tmp 159) rfl w0 wf vof ((L + 1) + 1 + 1) vcf g ((out ++ [ds.getD 0 0]) ++ [101] ++ [43]) ds [48, dgt x] 2 (by rfl) _ (by first | rfl | simp [Lib.byteCells, *]) (HNf.out) rfl _ rfl rfl (by omega) ?_; intro vog vcg wg hn; have HNg := Lib.hid hn; clear hn)))
        go_ret
        have hr := HNg.out.fmt
        have hf := HF.out
        unfold txtE signB
        rw [hf]
        rw [show expD x = [48, dgt x] from if_pos (by omega)]
        simpa using hr
      · have t1 : ¬ (x : Int) < 10 := by omega
        have t2 : (x : Int) < 100 := by omega
        have k1 : (x : Int) / 10 + 48 = ((dgt (x / 10)).toNat : Int) := by rw [dgt_val (x / 10) (by omega)]; omega
        have k2 : (x : Int) % 10 + 48 = ((dgt (x % 10)).toNat : Int) := by rw [dgt_val (x % 10) (by omega)]; omega
        go_wp2_with (first | (at_builtin; go_loud (refine wp_appB rfl (.tmp 120) (.tmp 122) rfl w0 wb vob (L + 1) vcb g (out ++ [ds.getD 0 0]) ds [101] 1 (by rfl) _ (by first | rfl | simp [Lib.byteCells, *]) (HNb.out) rfl _ rfl rfl (by omega) ?_; intro voe vce we hn; have HNe := Lib.hid hn; clear hn)) | (at_builtin; go_loud (refine wp_appB rfl (.tmp 132) (.tmp 134) rfl w0 we voe ((L + 1) + 1) vce g ((out ++ [ds.getD 0 0]) ++ [101]) ds [43] 1 (by rfl) _ (by first | rfl | simp [Lib.byteCells, *]) (HNe.out) rfl _ rfl rfl (by omega) ?_; intro vof vcf wf hn; have HNf := Lib.hid hn; clear hn)) | (at_builtin; go_loud (refine wp_appB rfl (.tmp 164) (.tmp 173) rfl w0 wf vof ((L + 1) + 1 + 1) vcf g ((out ++ [ds.getD 0 0]) ++ [101] ++ [43]) ds [dgt (x / 10), dgt (x % 10)] 2 (by rfl) _ (by first | rfl | simp [Lib.byteCells, *]) (HNf.out) rfl _ rfl rfl (by omega) ?_; intro vog vcg wg hn; have HNg := Lib.hid hn; clear hn)))
        go_ret
        have hr := HNg.out.fmt
        have hf := HF.out
        unfold txtE signB
        rw [hf]
        rw [show expD x = [dgt (x / 10), dgt (x % 10)] from (if_neg (by omega)).trans (if_pos (by omega))]
        simpa using hr
      · have t1 : ¬ (x : Int) < 10 := by omega
        have t2 : ¬ (x : Int) < 100 := by omega
        have k1 : (x : Int) / 100 + 48 = ((dgt (x / 100)).toNat : Int) := by rw [dgt_val (x / 100) (by omega)]; omega
        have k2 : (x : Int) / 10 % 10 + 48 = ((dgt (x / 10 % 10)).toNat : Int) := by rw [dgt_val (x / 10 % 10) (by omega)]; omega
        have k3 : (x : Int) % 10 + 48 = ((dgt (x % 10)).toNat : Int) := by rw [dgt_val (x % 10) (by omega)]; omega
        go_wp2_with (first | (at_builtin; go_loud (refine wp_appB rfl (.tmp 120) (.tmp 122) rfl w0 wb vob (L + 1) vcb g (out ++ [ds.getD 0 0]) ds [101] 1 (by rfl) _ (by first | rfl | simp [Lib.byteCells, *]) (HNb.out) rfl _ rfl rfl (by omega) ?_; intro voe vce we hn; have HNe := Lib.hid hn; clear hn)) | (at_builtin; go_loud (refine wp_appB rfl (.tmp 132) (.tmp 134) rfl w0 we voe ((L + 1) + 1) vce g ((out ++ [ds.getD 0 0]) ++ [101]) ds [43] 1 (by rfl) _ (by first | rfl | simp [Lib.byteCells, *]) (HNe.out) rfl _ rfl rfl (by omega) ?_; intro vof vcf wf hn; have HNf := Lib.hid hn; clear hn)) | (at_builtin; go_loud (refine wp_appB rfl (.tmp 136) (.tmp 150) rfl w0 wf vof ((L + 1) + 1 + 1) vcf g ((out ++ [ds.getD 0 0]) ++ [101] ++ [43]) ds [dgt (x / 100), dgt (x / 10 % 10), dgt (x % 10)] 3 (by rfl) _ (by first | rfl | simp [Lib.byteCells, *]) (HNf.out) rfl _ rfl rfl (by omega) ?_; intro vog vcg wg hn; have HNg := Lib.hid hn; clear hn)))
        go_ret
        have hr := HNg.out.fmt
        have hf := HF.out
        unfold txtE signB
        rw [hf]
        rw [show expD x = [dgt (x / 100), dgt (x / 10 % 10), dgt (x % 10)] from (if_neg (by omega)).trans (if_neg (by omega))]
        simpa using hr
    · have x4 : (0 : Int) < (n1 : Int) := by omega
      have x5 : (1 : Int) < (n1 : Int) + 1 := by omega
      have hf : fracE ds = 46 :: ds.drop 1 := by unfold fracE; rw [if_neg (by have := HDS.out; omega)]
      have hdl : (ds.drop 1).take n1 = ds.drop 1 := List.take_of_length_le (by have := HDS.out; simp; omega)
      have HF := Lib.hid (And.intro hf hdl)
      clear hn hf hdl
      have hk : 1 + n1 ≤ ds.length := by have := HDS.out; omega
      have HK := Lib.hid hk
      clear hk
      go_wp2_with (first | (at_builtin; go_loud (refine wp_appB rfl (.tmp 93) (.tmp 94) rfl w0 wb vob (L + 1) vcb g (out ++ [ds.getD 0 0]) ds [46] 1 (by rfl) _ (by first | rfl | simp [Lib.byteCells, *]) (HNb.out) rfl _ rfl rfl (by omega) ?_; intro voc vcc wc hn; have HNc := Lib.hid hn; clear hn)) | (at_builtin; go_loud (refine wp_appS rfl (.tmp 103) (.tmp 107) rfl w0 wc voc ((L + 1) + 1) vcc g ((out ++ [ds.getD 0 0]) ++ [46]) ds 1 n1 _ HK.out (HNc.out) rfl rfl (by omega) ?_; intro vod vcd wd hn; have HNd := Lib.hid hn; clear hn)))
      go_loop [0, 114] (fun d i => d = .slice vod ((L + 1) + 1 + n1) vcd ∧ i = .int .i64 0) (fun _ _ => 0)
      case atStart => exact ⟨rfl, by go_num⟩
      case round =>
        obtain ⟨rfl, rfl⟩ := hrel
        have hx10 : x < 10 ∨ (10 ≤ x ∧ x < 100) ∨ 100 ≤ x := by omega
        rcases hx10 with h | h | h
        · have t1 : (x : Int) < 10 := by omega
          have k1 : (x : Int) + 48 = ((dgt x).toNat : Int) := by rw [dgt_val x (by omega)]; omega
          go_wp2_with (first | (at_builtin; go_loud (refine wp_appB rfl (.tmp 120) (.tmp 122) rfl w0 wd vod ((L + 1) + 1 + n1) vcd g ((out ++ [ds.getD 0 0]) ++ [46] ++ (ds.drop 1).take n1) ds [101] 1 (by rfl) _ (by first | rfl | simp [Lib.byteCells, *]) (HNd.out) rfl _ rfl rfl (by omega) ?_; intro voe vce we hn; have HNe := Lib.hid hn; clear hn)) | (at_builtin; go_loud (refine wp_appB rfl (.tmp 132) (.tmp 134) rfl w0 we voe (((L + 1) + 1 + n1) + 1) vce g (((out ++ [ds.getD 0 0]) ++ [46] ++ (ds.drop 1).take n1) ++ [101]) ds [43] 1 (by rfl) _ (by first | rfl | simp [Lib.byteCells, *]) (HNe.out) rfl _ rfl rfl (by omega) ?_; intro vof vcf wf hn; have HNf := Lib.hid hn; clear hn)) | (at_builtin; go_loud (refine wp_appB rfl (.tmp 155) (.tmp 159) rfl w0 wf vof (((L + 1) + 1 + n1) + 1 + 1) vcf g (((out ++ [ds.getD 0 0]) ++ [46] ++ (ds.drop 1).take n1) ++ [101] ++ [43]) ds [48, dgt x] 2 (by rfl) _ (by first | rfl | simp [Lib.byteCells, *]) (HNf.out) rfl _ rfl rfl (by omega) ?_; intro vog vcg wg hn; have HNg := Lib.hid hn; clear hn)))
          go_ret
          have hr := HNg.out.fmt
          have hf := HF.out
          unfold txtE signB
          rw [hf.1]
          rw [hf.2] at hr
          rw [show expD x = [48, dgt x] from if_pos (by omega)]
          simpa using hr
        · have t1 : ¬ (x : Int) < 10 := by omega
          have t2 : (x : Int) < 100 := by omega
          have k1 : (x : Int) / 10 + 48 = ((dgt (x / 10)).toNat : Int) := by rw [dgt_val (x / 10) (by omega)]; omega
          have k2 : (x : Int) % 10 + 48 = ((dgt (x % 10)).toNat : Int) := by rw [dgt_val (x % 10) (by omega)]; omega
          go_wp2_with (first | (at_builtin; go_loud (refine wp_appB rfl (.tmp 120) (.tmp 122) rfl w0 wd vod ((L + 1) + 1 + n1) vcd g ((out ++ [ds.getD 0 0]) ++ [46] ++ (ds.drop 1).take n1) ds [101] 1 (by rfl) _ (by first | rfl | simp [Lib.byteCells, *]) (HNd.out) rfl _ rfl rfl (by omega) ?_; intro voe vce we hn; have HNe := Lib.hid hn; clear hn)) | (at_builtin; go_loud (refine wp_appB rfl (.tmp 132) (.tmp 134) rfl w0 we voe (((L + 1) + 1 + n1) + 1) vce g (((out ++ [ds.getD 0 0]) ++ [46] ++ (ds.drop 1).take n1) ++ [101]) ds [43] 1 (by rfl) _ (by first | rfl | simp [Lib.byteCells, *]) (HNe.out) rfl _ rfl rfl (by omega) ?_; intro vof vcf wf hn; have HNf := Lib.hid hn; clear hn)) | (at_builtin; go_loud (refine wp_appB rfl (.tmp 164) (.tmp 173) rfl w0 wf vof (((L + 1) + 1 + n1) + 1 + 1) vcf g (((out ++ [ds.getD 0 0]) ++ [46] ++ (ds.drop 1).take n1) ++ [101] ++ [43]) ds [dgt (x / 10), dgt (x % 10)] 2 (by rfl) _ (by first | rfl | simp [Lib.byteCells, *]) (HNf.out) rfl _ rfl rfl (by omega) ?_; intro vog vcg wg hn; have HNg := Lib.hid hn; clear hn)))
          go_ret
          have hr := HNg.out.fmt
          have hf := HF.out
          unfold txtE signB
          rw [hf.1]
          rw [hf.2] at hr
          rw [show expD x = [dgt (x / 10), dgt (x % 10)] from (if_neg (by omega)).trans (if_pos (by omega))]
          simpa using hr
        · have t1 : ¬ (x : Int) < 10 := by omega
          have t2 : ¬ (x : Int) < 100 := by omega
          have k1 : (x : Int) / 100 + 48 = ((dgt (x / 100)).toNat : Int) := by rw [dgt_val (x / 100) (by omega)]; omega
          have k2 : (x : Int) / 10 % 10 + 48 = ((dgt (x / 10 % 10)).toNat : Int) := by rw [dgt_val (x / 10 % 10) (by omega)]; omega
          have k3 : (x : Int) % 10 + 48 = ((dgt (x % 10)).toNat : Int) := by rw [dgt_val (x % 10) (by omega)]; omega
          go_wp2_with (first | (at_builtin; go_loud (refine wp_appB rfl (.tmp 120) (.tmp 122) rfl w0 wd vod ((L + 1) + 1 + n1) vcd g ((out ++ [ds.getD 0 0]) ++ [46] ++ (ds.drop 1).take n1) ds [101] 1 (by rfl) _ (by first | rfl | simp [Lib.byteCells, *]) (HNd.out) rfl _ rfl rfl (by omega) ?_; intro voe vce we hn; have HNe := Lib.hid hn; clear hn)) | (at_builtin; go_loud (refine wp_appB rfl (.tmp 132) (.tmp 134) rfl w0 we voe (((L + 1) + 1 + n1) + 1) vce g (((out ++ [ds.getD 0 0]) ++ [46] ++ (ds.drop 1).take n1) ++ [101]) ds [43] 1 (by rfl) _ (by first | rfl | simp [Lib.byteCells, *]) (HNe.out) rfl _ rfl rfl (by omega) ?_; intro vof vcf wf hn; have HNf := Lib.hid hn; clear hn)) | (at_builtin; go_loud (refine wp_appB rfl (.tmp 136) (.tmp 150) rfl w0 wf vof (((L + 1) + 1 + n1) + 1 + 1) vcf g (((out ++ [ds.getD 0 0]) ++ [46] ++ (ds.drop 1).take n1) ++ [101] ++ [43]) ds [dgt (x / 100), dgt (x / 10 % 10), dgt (x % 10)] 3 (by rfl) _ (by first | rfl | simp [Lib.byteCells, *]) (HNf.out) rfl _ rfl rfl (by omega) ?_; intro vog vcg wg hn; have HNg := Lib.hid hn; clear hn)))
          go_ret
          have hr := HNg.out.fmt
          have hf := HF.out
          unfold txtE signB
          rw [hf.1]
          rw [hf.2] at hr
          rw [show expD x = [dgt (x / 100), dgt (x / 10 % 10), dgt (x % 10)] from (if_neg (by omega)).trans (if_neg (by omega))]
          simpa using hr
  · go_upto_if 83 with (at_builtin; go_loud (refine wp_appB rfl (.tmp 79) (.tmp 80) rfl w0 w vo L vc g out ds [45] 1 (by rfl) _ (by first | rfl | simp [Lib.byteCells, *]) (HR.out) rfl _ rfl rfl (by omega) ?_; intro voa vca wa hn; have HNa := Lib.hid hn; clear hn))
    have d0 := HNa.out.dig 0 (by have := HDS.out; omega)
    go_upto_if 92 with (at_builtin; go_loud (refine wp_appB rfl (.tmp 87) (.tmp 89) rfl w0 wa voa (L + 1) vca g (out ++ [45]) ds [ds.getD 0 0] 1 (by rfl) _ (by first | rfl | simp [Lib.byteCells, *]) (HNa.out) rfl _ rfl rfl (by omega) ?_; intro vob vcb wb hn; have HNb := Lib.hid hn; clear hn))
    by_cases hn : n1 = 0
    · have x4 : ¬ (0 : Int) < (n1 : Int) := by omega
      have hf : fracE ds = [] := by unfold fracE; rw [if_pos (by have := HDS.out; omega)]
      have HF := Lib.hid hf
      clear hn hf
      have hx10 : x < 10 ∨ (10 ≤ x ∧ x < 100) ∨ 100 ≤ x := by omega
      rcases hx10 with h | h | h
      · have t1 : (x : Int) < 10 := by omega
        have k1 : (x : Int) + 48 = ((dgt x).toNat : Int) := by rw [dgt_val x (by omega)]; omega
        go_wp2_with (first | (at_builtin; go_loud (refine wp_appB rfl (.tmp 120) (.tmp 122) rfl w0 wb vob ((L + 1) + 1) vcb g ((out ++ [45]) ++ [ds.getD 0 0]) ds [101] 1 (by rfl) _ (by first | rfl | simp [Lib.byteCells, *]) (HNb.out) rfl _ rfl rfl (by omega) ?_; intro voe vce we hn; have HNe := Lib.hid hn; clear hn)) | (at_builtin; go_loud (refine wp_appB rfl (.tmp 132) (.tmp 134) rfl w0 we voe (((L + 1) + 1) + 1) vce g (((out ++ [45]) ++ [ds.getD 0 0]) ++ [101]) ds [43] 1 (by rfl) _ (by first | rfl | simp [Lib.byteCells, *]) (HNe.out) rfl _ rfl rfl (by omega) ?_; intro vof vcf wf hn; have HNf := Lib.hid hn; clear hn)) | (at_builtin; go_loud (refine wp_appB rfl (.tmp 155) (.tmp 159) rfl w0 wf vof (((L + 1) + 1) + 1 + 1) vcf g (((out ++ [45]) ++ [ds.getD 0 0]) ++ [101] ++ [43]) ds [48, dgt x] 2 (by rfl) _ (by first | rfl | simp [Lib.byteCells, *]) (HNf.out) rfl _ rfl rfl (by omega) ?_; intro vog vcg wg hn; have HNg := Lib.hid hn; clear hn)))
        go_ret
        have hr := HNg.out.fmt
        have hf := HF.out
        unfold txtE signB
        rw [hf]
        rw [show expD x = [48, dgt x] from if_pos (by omega)]
        simpa using hr
      · have t1 : ¬ (x : Int) < 10 := by omega
        have t2 : (x : Int) < 100 := by omega
        have k1 : (x : Int) / 10 + 48 = ((dgt (x / 10)).toNat : Int) := by rw [dgt_val (x / 10) (by omega)]; omega
        have k2 : (x : Int) % 10 + 48 = ((dgt (x % 10)).toNat : Int) := by rw [dgt_val (x % 10) (by omega)]; omega
        go_wp2_with (first | (at_builtin; go_loud (refine wp_appB rfl (.tmp 120) (.tmp 122) rfl w0 wb vob ((L + 1) + 1) vcb g ((out ++ [45]) ++ [ds.getD 0 0]) ds [101] 1 (by rfl) _ (by first | rfl | simp [Lib.byteCells, *]) (HNb.out) rfl _ rfl rfl (by omega) ?_; intro voe vce we hn; have HNe := Lib.hid hn; clear hn)) | (at_builtin; go_loud (refine wp_appB rfl (.tmp 132) (.tmp 134) rfl w0 we voe (((L + 1) + 1) + 1) vce g (((out ++ [45]) ++ [ds.getD 0 0]) ++ [101]) ds [43] 1 (by rfl) _ (by first | rfl | simp [Lib.byteCells, *]) (HNe.out) rfl _ rfl rfl (by omega) ?_; intro vof vcf wf hn; have HNf := Lib.hid hn; clear hn)) | (at_builtin; go_loud (refine wp_appB rfl (.tmp 164) (.tmp 173) rfl w0 wf vof (((L + 1) + 1) + 1 + 1) vcf g (((out ++ [45]) ++ [ds.getD 0 0]) ++ [101] ++ [43]) ds [dgt (x / 10), dgt (x % 10)] 2 (by rfl) _ (by first | rfl | simp [Lib.byteCells, *]) (HNf.out) rfl _ rfl rfl (by omega) ?_; intro vog vcg wg hn; have HNg := Lib.hid hn; clear hn)))
        go_ret
        have hr := HNg.out.fmt
        have hf := HF.out
        unfold txtE signB
        rw [hf]
        rw [show expD x = [dgt (x / 10), dgt (x % 10)] from (if_neg (by omega)).trans (if_pos (by omega))]
        simpa using hr
      · have t1 : ¬ (x : Int) < 10 := by omega
        have t2 : ¬ (x : Int) < 100 := by omega
        have k1 : (x : Int) / 100 + 48 = ((dgt (x / 100)).toNat : Int) := by rw [dgt_val (x / 100) (by omega)]; omega
        have k2 : (x : Int) / 10 % 10 + 48 = ((dgt (x / 10 % 10)).toNat : Int) := by rw [dgt_val (x / 10 % 10) (by omega)]; omega
        have k3 : (x : Int) % 10 + 48 = ((dgt (x % 10)).toNat : Int) := by rw [dgt_val (x % 10) (by omega)]; omega
        go_wp2_with (first | (at_builtin; go_loud (refine wp_appB rfl (.tmp 120) (.tmp 122) rfl w0 wb vob ((L + 1) + 1) vcb g ((out ++ [45]) ++ [ds.getD 0 0]) ds [101] 1 (by rfl) _ (by first | rfl | simp [Lib.byteCells, *]) (HNb.out) rfl _ rfl rfl (by omega) ?_; intro voe vce we hn; have HNe := Lib.hid hn; clear hn)) | (at_builtin; go_loud (refine wp_appB rfl (.tmp 132) (.tmp 134) rfl w0 we voe (((L + 1) + 1) + 1) vce g (((out ++ [45]) ++ [ds.getD 0 0]) ++ [101]) ds [43] 1 (by rfl) _ (by first | rfl | simp [Lib.byteCells, *]) (HNe.out) rfl _ rfl rfl (by omega) ?_; intro vof vcf wf hn; have HNf := Lib.hid hn; clear hn)) | (at_builtin; go_loud (refine wp_appB rfl (.tmp 136) (.tmp 150) rfl w0 wf vof (((L + 1) + 1) + 1 + 1) vcf g (((out ++ [45]) ++ [ds.getD 0 0]) ++ [101] ++ [43]) ds [dgt (x / 100), dgt (x / 10 % 10), dgt (x % 10)] 3 (by rfl) _ (by first | rfl | simp [Lib.byteCells, *]) (HNf.out) rfl _ rfl rfl (by omega) ?_; intro vog vcg wg hn; have HNg := Lib.hid hn; clear hn)))
        go_ret
        have hr := HNg.out.fmt
        have hf := HF.out
        unfold txtE signB
        rw [hf]
        rw [show expD x = [dgt (x / 100), dgt (x / 10 % 10), dgt (x % 10)] from (if_neg (by omega)).trans (if_neg (by omega))]
        simpa using hr
    · have x4 : (0 : Int) < (n1 : Int) := by omega
      have x5 : (1 : Int) < (n1 : Int) + 1 := by omega
      have hf : fracE ds = 46 :: ds.drop 1 := by unfold fracE; rw [if_neg (by have := HDS.out; omega)]
      have hdl : (ds.drop 1).take n1 = ds.drop 1 := List.take_of_length_le (by have := HDS.out; simp; omega)
      have HF := Lib.hid (And.intro hf hdl)
      clear hn hf hdl
      have hk : 1 + n1 ≤ ds.length := by have := HDS.out; omega
      have HK := Lib.hid hk
      clear hk
      go_wp2_with (first | (at_builtin; go_loud (refine wp_appB rfl (.tmp 93) (.tmp 94) rfl w0 wb vob ((L + 1) + 1) vcb g ((out ++ [45]) ++ [ds.getD 0 0]) ds [46] 1 (by rfl) _ (by first | rfl | simp [Lib.byteCells, *]) (HNb.out) rfl _ rfl rfl (by omega) ?_; intro voc vcc wc hn; have HNc := Lib.hid hn; clear hn)) | (at_builtin; go_loud (refine wp_appS rfl (.tmp 103) (.tmp 107) rfl w0 wc voc (((L + 1) + 1) + 1) vcc g (((out ++ [45]) ++ [ds.getD 0 0]) ++ [46]) ds 1 n1 _ HK.out (HNc.out) rfl rfl (by omega) ?_; intro vod vcd wd hn; have HNd := Lib.hid hn; clear hn)))
      go_loop [0, 114] (fun d i => d = .slice vod (((L + 1) + 1) + 1 + n1) vcd ∧ i = .int .i64 0) (fun _ _ => 0)
      case atStart => exact ⟨rfl, by go_num⟩
      case round =>
        obtain ⟨rfl, rfl⟩ := hrel
        have hx10 : x < 10 ∨ (10 ≤ x ∧ x < 100) ∨ 100 ≤ x := by omega
        rcases hx10 with h | h | h
        · have t1 : (x : Int) < 10 := by omega
          have k1 : (x : Int) + 48 = ((dgt x).toNat : Int) := by rw [dgt_val x (by omega)]; omega
          go_wp2_with (first | (at_builtin; go_loud (refine wp_appB rfl (.tmp 120) (.tmp 122) rfl w0 wd vod (((L + 1) + 1) + 1 + n1) vcd g (((out ++ [45]) ++ [ds.getD 0 0]) ++ [46] ++ (ds.drop 1).take n1) ds [101] 1 (by rfl) _ (by first | rfl | simp [Lib.byteCells, *]) (HNd.out) rfl _ rfl rfl (by omega) ?_; intro voe vce we hn; have HNe := Lib.hid hn; clear hn)) | (at_builtin; go_loud (refine wp_appB rfl (.tmp 132) (.tmp 134) rfl w0 we voe ((((L + 1) + 1) + 1 + n1) + 1) vce g ((((out ++ [45]) ++ [ds.getD 0 0]) ++ [46] ++ (ds.drop 1).take n1) ++ [101]) ds [43] 1 (by rfl) _ (by first | rfl | simp [Lib.byteCells, *]) (HNe.out) rfl _ rfl rfl (by omega) ?_; intro vof vcf wf hn; have HNf := Lib.hid hn; clear hn)) | (at_builtin; go_loud (refine wp_appB rfl (.tmp 155) (.tmp 159) rfl w0 wf vof ((((L + 1) + 1) + 1 + n1) + 1 + 1) vcf g ((((out ++ [45]) ++ [ds.getD 0 0]) ++ [46] ++ (ds.drop 1).take n1) ++ [101] ++ [43]) ds [48, dgt x] 2 (by rfl) _ (by first | rfl | simp [Lib.byteCells, *]) (HNf.out) rfl _ rfl rfl (by omega) ?_; intro vog vcg wg hn; have HNg := Lib.hid hn; clear hn)))
          go_ret
          have hr := HNg.out.fmt
          have hf := HF.out
          unfold txtE signB
          rw [hf.1]
          rw [hf.2] at hr
          rw [show expD x = [48, dgt x] from if_pos (by omega)]
          simpa using hr
        · have t1 : ¬ (x : Int) < 10 := by omega
          have t2 : (x : Int) < 100 := by omega
          have k1 : (x : Int) / 10 + 48 = ((dgt (x / 10)).toNat : Int) := by rw [dgt_val (x / 10) (by omega)]; omega
          have k2 : (x : Int) % 10 + 48 = ((dgt (x % 10)).toNat : Int) := by rw [dgt_val (x % 10) (by omega)]; omega
          go_wp2_with (first | (at_builtin; go_loud (refine wp_appB rfl (.tmp 120) (.tmp 122) rfl w0 wd vod (((L + 1) + 1) + 1 + n1) vcd g (((out ++ [45]) ++ [ds.getD 0 0]) ++ [46] ++ (ds.drop 1).take n1) ds [101] 1 (by rfl) _ (by first | rfl | simp [Lib.byteCells, *]) (HNd.out) rfl _ rfl rfl (by omega) ?_; intro voe vce we hn; have HNe := Lib.hid hn; clear hn)) | (at_builtin; go_loud (refine wp_appB rfl (.tmp 132) (.tmp 134) rfl w0 we voe ((((L + 1) + 1) + 1 + n1) + 1) vce g ((((out ++ [45]) ++ [ds.getD 0 0]) ++ [46] ++ (ds.drop 1).take n1) ++ [101]) ds [43] 1 (by rfl) _ (by first | rfl | simp [Lib.byteCells, *]) (HNe.out) rfl _ rfl rfl (by omega) ?_; intro vof vcf wf hn; have HNf := Lib.hid hn; clear hn)) | (at_builtin; go_loud (refine wp_appB rfl (.tmp 164) (.tmp 173) rfl w0 wf vof ((((L + 1) + 1) + 1 + n1) + 1 + 1) vcf g ((((out ++ [45]) ++ [ds.getD 0 0]) ++ [46] ++ (ds.drop 1).take n1) ++ [101] ++ [43]) ds [dgt (x / 10), dgt (x % 10)] 2 (by rfl) _ (by first | rfl | simp [Lib.byteCells, *]) (HNf.out) rfl _ rfl rfl (by omega) ?_; intro vog vcg wg hn; have HNg := Lib.hid hn; clear hn)))
          go_ret
          have hr := HNg.out.fmt
          have hf := HF.out
          unfold txtE signB
          rw [hf.1]
          rw [hf.2] at hr
          rw [show expD x = [dgt (x / 10), dgt (x % 10)] from (if_neg (by omega)).trans (if_pos (by omega))]
          simpa using hr
        · have t1 : ¬ (x : Int) < 10 := by omega
          have t2 : ¬ (x : Int) < 100 := by omega
          have k1 : (x : Int) / 100 + 48 = ((dgt (x / 100)).toNat : Int) := by rw [dgt_val (x / 100) (by omega)]; omega
          have k2 : (x : Int) / 10 % 10 + 48 = ((dgt (x / 10 % 10)).toNat : Int) := by rw [dgt_val (x / 10 % 10) (by omega)]; omega
          have k3 : (x : Int) % 10 + 48 = ((dgt (x % 10)).toNat : Int) := by rw [dgt_val (x % 10) (by omega)]; omega
          go_wp2_with (first | (at_builtin; go_loud (refine wp_appB rfl (.tmp 120) (.tmp 122) rfl w0 wd vod (((L + 1) + 1) + 1 + n1) vcd g (((out ++ [45]) ++ [ds.getD 0 0]) ++ [46] ++ (ds.drop 1).take n1) ds [101] 1 (by rfl) _ (by first | rfl | simp [Lib.byteCells, *]) (HNd.out) rfl _ rfl rfl (by omega) ?_; intro voe vce we hn; have HNe := Lib.hid hn; clear hn)) | (at_builtin; go_loud (refine wp_appB rfl (.tmp 132) (.tmp 134) rfl w0 we voe ((((L + 1) + 1) + 1 + n1) + 1) vce g ((((out ++ [45]) ++ [ds.getD 0 0]) ++ [46] ++ (ds.drop 1).take n1) ++ [101]) ds [43] 1 (by rfl) _ (by first | rfl | simp [Lib.byteCells, *]) (HNe.out) rfl _ rfl rfl (by omega) ?_; intro vof vcf wf hn; have HNf := Lib.hid hn; clear hn)) | (at_builtin; go_loud (refine wp_appB rfl (.tmp 136) (.tmp 150) rfl w0 wf vof ((((L + 1) + 1) + 1 + n1) + 1 + 1) vcf g ((((out ++ [45]) ++ [ds.getD 0 0]) ++ [46] ++ (ds.drop 1).take n1) ++ [101] ++ [43]) ds [dgt (x / 100), dgt (x / 10 % 10), dgt (x % 10)] 3 (by rfl) _ (by first | rfl | simp [Lib.byteCells, *]) (HNf.out) rfl _ rfl rfl (by omega) ?_; intro vog vcg wg hn; have HNg := Lib.hid hn; clear hn)))
          go_ret
          have hr := HNg.out.fmt
          have hf := HF.out
          unfold txtE signB
          rw [hf.1]
          rw [hf.2] at hr
          rw [show expD x = [dgt (x / 100), dgt (x / 10 % 10), dgt (x % 10)] from (if_neg (by omega)).trans (if_neg (by omega))]
          simpa using hr
end Go.Proofs.YtmlgfhdjdmfdbaaDoor
