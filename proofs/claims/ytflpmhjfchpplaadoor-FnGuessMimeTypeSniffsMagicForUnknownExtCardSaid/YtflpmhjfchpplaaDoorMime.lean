/-
  Proved: contracts of MimeTypeByExtension and guessMimeType. No statement of the seat stands here.
-/
import Derived.Test.YtflpmhjfchpplaaDoorDetb
import Derived.Test.YtflpmhjfchpplaaDoorLow
import Derived.Test.YtflpmhjfchpplaaDoorRep
import Derived.Lib.ConvBytes
import Derived.Deep.RegionWith
namespace Go.Proofs.YtflpmhjfchpplaaDoor
open Go.RowKit Go.ChangeAt
set_option linter.unusedSimpArgs false
set_option linter.unusedVariables false
set_option maxRecDepth 100000
/-- The tables that the code reads, as they lie. -/
structure MapP (w : World) (bm : Nat) : Prop where
  cel : w.cell? ⟨0, 0, none⟩ = some (.map (some bm))
  get : ∀ W', Chg Nowhere w W' → ∀ s : ByteArray, s.data.toList.head? ≠ some 46 → s.size ≤ 8388608 → (Instr.lookup 30 (.map (some bm)) (.string s) false).run Tryd.prog W' = .ok (.string ⟨#[]⟩) W'
  cas : Lib.CaseVar 1 Lib.caseA w
  tab : Lib.Utf8Tabs 3 4 w
def NoDot (s : ByteArray) : Prop := ∀ b ∈ s.data.toList, b ≠ 46
theorem nodot_head {s : ByteArray} (h : NoDot s) : s.data.toList.head? ≠ some 46 := fun e => h 46 (List.mem_of_mem_head? e) rfl
theorem chg_below {w w' : World} (h : Below w.heap.size w w') : Chg Nowhere w w' :=
  ⟨h.os, h.tape, h.output, h.size, fun k hk _ => h.block k hk⟩
theorem below_of {w w' : World} (h : Chg Nowhere w w') : Below w.heap.size w w' := h.below (Nat.le_refl _) (fun _ _ h => h.elim)
structure LowOut (X : ByteArray) (bm : Nat) (w : World) (e : Ending) (w' : World) : Prop where
  e : e = .returned (.string X)
  chg : Chg Nowhere w w'
  get : (Instr.lookup 30 (.map (some bm)) (.string X) false).run Tryd.prog w' = .ok (.string ⟨#[]⟩) w'
  get2 : (Instr.lookup 30 (.map (some bm)) (.string X) false).run Tryd.prog w'.drew = .ok (.string ⟨#[]⟩) w'.drew
  cel : w'.cell? ⟨0, 0, none⟩ = some (.map (some bm))
theorem low14 (s : ByteArray) (bm : Nat) (w W : World) (hM : MapP w bm) (hs : s.size ≤ 1048576) (hd : NoDot s) (hW : Chg Nowhere w W) (hh : W.heap = w.heap) : Calls Tryd.prog 14 #[.string s] W (LowOut ⟨(Lib.toLowerD s.data.toList).toArray⟩ bm w) := by
  have hlow : (ByteArray.mk (Lib.toLowerD s.data.toList).toArray).data.toList.head? ≠ some 46 := by
    have := low_head s.data.toList hd
    simpa using this
  have hlen : (ByteArray.mk (Lib.toLowerD s.data.toList).toArray).size ≤ 8388608 := by
    show (Lib.toLowerD s.data.toList).toArray.size ≤ _
    rw [List.size_toArray]
    have h1 := low_len s.data.toList
    have h2 : s.data.toList.length = s.size := by rw [Array.length_toList]; rfl
    omega
  have hcas : Lib.CaseVar 1 Lib.caseA W := Lib.CaseVar_below hM.cas (below_of hW)
  have htab : Lib.Utf8Tabs 3 4 W := by
    have h := hM.tab
    have hc : ∀ p, W.cell? p = w.cell? p := fun p => by unfold World.cell?; rw [hh]
    unfold Lib.Utf8Tabs at h ⊢
    simpa only [hc] using h
  refine (Tryd.strings_ToLower_any s W (by omega) hcas htab).mono ?_
  rintro e w' ⟨rfl, hb⟩
  have hch := hW.trans (chg_below hb) (fun _ _ h => h)
  exact ⟨rfl, hch, hM.get w' hch _ hlow hlen, hM.get _ hch.drew _ hlow hlen, hch.cell hM.cel (fun h => h)⟩
set_option maxHeartbeats 4000000 in
theorem mime11 (s : ByteArray) (bm : Nat) (w : World) (hM : MapP w bm) (hs : s.size ≤ 1048576) (hd : NoDot s) : Calls Tryd.prog 11 #[.string s] w (TxtOut ⟨#[]⟩ w) := by
  have c0 := hM.cel
  have g0 := hM.get w (Chg.refl _ _) s (nodot_head hd) (by omega)
  have h14 : ∀ W, Chg Nowhere w W → W.heap = w.heap → Calls Tryd.prog 14 #[.string s] W (LowOut ⟨(Lib.toLowerD s.data.toList).toArray⟩ bm w) := fun W h1 h2 => low14 s bm w W hM hs hd h1 h2
  generalize (ByteArray.mk (Lib.toLowerD s.data.toList).toArray) = X at h14
  have H14 := Lib.hid h14
  clear hM hd h14
  go_enter Tryd.func11, Tryd.ntmps11
  go_wp2_with fail
  go_region_with (go_at_call 14; go_must (refine (H14.out _ (by first | exact (Chg.refl Nowhere w).drew | exact (Chg.refl Nowhere w).drewN _ | exact Chg.refl _ _) (by rfl)).mono ?_; rintro e w' ⟨rfl, hch, g1, g2, c1⟩; have HC := Lib.hid hch; clear hch))
  all_goals (
    go_wp2_with fail
    go_ret
    first
      | exact ⟨rfl, HC.out⟩
      | exact ⟨rfl, HC.out.drew⟩
      | exact ⟨rfl, HC.out.drewN _⟩)
theorem chg_bytes (w : World) (s : ByteArray) : Chg Nowhere w (Lib.bytesWorld w 5 s) :=
  ⟨rfl, rfl, rfl, by rw [Lib.bytesWorld_size]; omega, fun k hk _ => Lib.bytesWorld_at_old w 5 s k hk⟩
theorem dat_bytes (w : World) (s : ByteArray) (hs : s.size ≤ 2097152) : Dat (Lib.bytesWorld w 5 s) (some ⟨w.heap.size, 0, none⟩) s.size (grownCap w s.size 0 5) s.data.toList := by
  have h1 := grownCap_ge w s.size 0 5
  have h2 := grownCap_le_maxLen w s.size 0 5 (by unfold maxLen; omega)
  have hl : s.data.toList.length = s.size := by rw [Array.length_toList]; rfl
  refine ⟨hl, h1, by unfold maxLen at h2; omega, fun _ => ⟨_, 0, rfl, fun i hi => ?_⟩⟩
  rw [Nat.zero_add, Lib.bytesWorld_cell w 5 s i hi, ints_get _ i (by omega)]
/-- What the sniffing says of the bytes l0. -/
structure Sniff (l0 : List UInt8) (k h : Nat) (ct : List UInt8) : Prop where
  ws : ∀ j, j < k → wsN ((l0.take 512).getD j 0).toNat = true
  at_ : k < (l0.take 512).length → wsN ((l0.take 512).getD k 0).toNat = false
  le : k ≤ (l0.take 512).length
  hit : Sn.Hit (l0.take 512) k ct h
  ne : ct ≠ []
theorem det_any (a : Option Addr) (n c k h : Nat) (l0 ct : List UInt8) (w : World) (hd : Dat w a n c l0) (hS : Sniff l0 k h ct) : Calls Tryd.prog 12 #[.slice a n c] w (StrOut ct w) := by
  have hlen := hd.len
  have h2 := hS.at_
  have h3 := hS.le
  rw [List.length_take] at h2 h3
  by_cases hn : n ≤ 512
  · have e : l0.take 512 = l0 := List.take_of_length_le (by omega)
    have h1 := hS.ws
    have h4 := hS.hit
    rw [e] at h1 h2 h4
    exact det12 a n c k h l0 ct w hd hn h1 (fun hk => h2 (by omega)) (by omega) h4 hS.ne
  · exact det12b a n 512 c k h l0 _ ct w hd (by omega) rfl rfl hS.ws (fun hk => h2 (by omega)) (by omega) hS.hit hS.ne
set_option maxHeartbeats 4000000 in
theorem guess10 (ext s R : ByteArray) (bm k h : Nat) (ct : List UInt8) (w : World) (hM : MapP w bm) (hs : ext.size ≤ 1048576) (hd : NoDot ext) (hz : s.size ≤ 2097152) (hS : Sniff s.data.toList k h ct) (hR : ∀ w, Calls Tryd.prog 13 #[.string (strB ct), .string ⟨#[59, 32]⟩, .string ⟨#[59]⟩] w (TxtOut R w)) :
    Calls Tryd.prog 10 #[.string ext, .string s] w (TxtOut R w) := by
  have H11 := Lib.hid (mime11 ext bm w hM hs hd)
  have HS := Lib.hid hS
  have HR := Lib.hid hR
  clear hM hd hS hR
  go_enter Tryd.func10, Tryd.ntmps10
  go_wp2_with fail
  refine H11.out.mono ?_
  rintro e1 w1 ⟨rfl, hc1⟩
  have hcv := Lib.run_convert_string_bytes (P := Tryd.prog) w1 9 28 5 s Tryd.underlying9 Tryd.underlying28 Tryd.underlying5
  have hdat := dat_bytes w1 s hz
  have hc2 := hc1.trans (chg_bytes w1 s) (fun _ _ h => h)
  generalize Lib.bytesWorld w1 5 s = w2 at hcv hdat hc2
  generalize grownCap w1 s.size 0 5 = c0 at hcv hdat
  have HD := Lib.hid hdat
  have HC := Lib.hid hc2
  clear hdat hc1 hc2 H11
  go_wp2_with fail
  refine (det_any _ _ _ k h _ ct w2 HD.out HS.out).mono ?_
  rintro e2 w3 ⟨rfl, hc3⟩
  have HC3 := Lib.hid (HC.out.trans hc3 (fun _ _ h => h))
  clear hc3
  go_wp2_with fail
  refine (HR.out w3).mono ?_
  rintro e3 w4 ⟨rfl, hc4⟩
  have HC4 := Lib.hid (HC3.out.trans hc4 (fun _ _ h => h))
  clear hc4
  go_wp2_with fail
  go_ret
  exact ⟨rfl, HC4.out⟩
theorem zz8 (ext s R : ByteArray) (w : World) (h : Calls Tryd.prog 10 #[.string ext, .string s] w (TxtOut R w)) : Calls Tryd.prog 8 #[.string ext, .string s] w (TxtOut R w) := by
  have H := Lib.hid h
  clear h
  go_enter Tryd.func8, Tryd.ntmps8
  go_wp2_with fail
  refine H.out.mono ?_
  rintro e1 w1 ⟨rfl, hc1⟩
  have HC := Lib.hid hc1
  clear hc1
  go_wp2_with fail
  go_ret
  exact ⟨rfl, HC.out⟩
end Go.Proofs.YtflpmhjfchpplaaDoor
