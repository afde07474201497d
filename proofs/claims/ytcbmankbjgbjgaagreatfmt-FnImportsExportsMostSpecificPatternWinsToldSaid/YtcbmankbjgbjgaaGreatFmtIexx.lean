/-
  Proved: contract of esmPackageImportsExportsResolve at pattern keys. No statement of the seat stands here.
-/
import Derived.Test.YtcbmankbjgbjgaaGreatFmtBest
import Derived.Test.YtcbmankbjgbjgaaGreatFmtValx
import Derived.Deep.DeepCutAuto
import Derived.Outline
import Derived.Lib.IndexLaws
import Derived.Lib.Bytealg
namespace Go.Proofs.YtcbmankbjgbjgaaGreatFmt
open Go.RowKit Go.ChangeAt
open Go.Extern.Stop Go.Stop Go.Extern
set_option linter.unusedSimpArgs false
set_option linter.unusedVariables false
set_option maxRecDepth 100000
/-- A directory's name: one segment, no star, not empty, not long. -/
structure Dir (d : ByteArray) : Prop where
  seg : NoSep d
  ne : d ≠ ⟨#[]⟩
  nb : ¬ Bad d
  ns : ∀ i, i < d.size → bt d i ≠ 42
  short : d.size ≤ 1048576
def PatOut (n : Nat) (b d : Nat → ByteArray) (q : ByteArray) (w : World) (e : Ending) (w' : World) : Prop :=
  (∃ r st t, PatHit n b d q r st ∧ e = .returned (.tuple #[.string r, .int .u8 st, .agg (dbg t)])) ∧ Chg Nowhere w w'
set_option maxHeartbeats 16000000 in
theorem iex25x (ma : Option Addr) (n mc g ec : Nat) (f tt b d : Nat → ByteArray) (L s : Nat → Nat) (bi : Bool) (q m : ByteArray) (v5 : Value) (w : World) (hm : m = dotted q) (hI : Items w ma n f tt) (hT : Tbl w g n f tt s) (hB : Stab.Blk (KL L) s 0 n) (hf : ∀ i, f i = keyP (b i)) (htt : ∀ i, tt i = patS (d i)) (hb : ∀ i, ∀ j, j < (b i).size → bt (b i) j ≠ 42) (hbz : ∀ i, i < n → (b i).size ≤ 1048576) (hd : ∀ i, i < n → Dir (d i)) (hL : ∀ x, L x = (b x).size + 2) (hn : n ≤ 1048576) (hq : NoSep q) (hqs : q.size ≤ 1048576) :
    Calls Tryz.prog 25 #[.agg rq, .string m, .agg (oentx ma n mc (some ⟨g, 0, none⟩) n ec), .string ⟨#[47, 112, 107, 103]⟩, .bool bi, v5] w (PatOut n b d q w) := by
  have hms : m.size = q.size + 2 := by rw [hm, dotted_size]
  have Hm := Lib.hid hm
  have HI := Lib.hid hI
  have HT := Lib.hid hT
  have HB := Lib.hid hB
  have Hf := Lib.hid hf
  have Htt := Lib.hid htt
  have Hb := Lib.hid hb
  have Hbz := Lib.hid hbz
  have Hd := Lib.hid hd
  have HL := Lib.hid hL
  have Hq := Lib.hid hq
  have HF0 := Lib.hid (Fr.start w (oentx ma n mc (some ⟨g, 0, none⟩) n ec) (dbg ⟨#[]⟩))
  clear hm hI hT hB hf htt hb hbz hd hL hq
  unfold rq oentx dbg at HF0
  unfold rq oentx
  go_enter Tryz.func25, Tryz.ntmps25
  go_upto_region 1 with fail
  have hF := HF0.out
  generalize hw1 : World.alloc _ _ = w1 at hF ⊢
  clear hw1 HF0
  have q0 := cell_of_heap hF.q 0
  have q1 := cell_of_heap hF.q 1
  have q2 := cell_of_heap hF.q 2
  have q3 := cell_of_heap hF.q 3
  have d0 := cell_of_heap hF.d 0
  have d1 := cell_of_heap hF.d 1
  have d2 := cell_of_heap hF.d 2
  have d3 := cell_of_heap hF.d 3
  have d4 := cell_of_heap hF.d 4
  have d5 := cell_of_heap hF.d 5
  have d6 := cell_of_heap hF.d 6
  have z0 := cell_of_heap hF.z 0
  have z1 := cell_of_heap hF.z 1
  have z2 := cell_of_heap hF.z 2
  have z3 := cell_of_heap hF.z 3
  have z4 := cell_of_heap hF.z 4
  simp [rq, dbg] at q0 q1 q2 q3 d0 d1 d2 d3 d4 d5 d6 z0 z1 z2 z3 z4
  have fz : ∀ j, w1.frozen? ⟨w.heap.size + 1 + 1, j, none⟩ = false := fun j => frozen_of_heap hF.z j
  have l1 := heap_lt hF.q
  have l2 := heap_lt hF.d
  have l3 := heap_lt hF.z
  have HF := Lib.hid hF
  clear hF
  go_wp2_with fail
  refine (Tryz.strings_HasSuffix m ⟨#[47]⟩ w1 (by omega)).mono ?_
  rintro e1 w2 ⟨rfl, rfl⟩
  cases hsuf : Lib.hasSuffix m.data.toList [47]
  · go_wp2_with fail
    refine (Tryz.strings_IndexByte m 42 w2).mono ?_
    rintro e2 w3 ⟨rfl, rfl⟩
    obtain ⟨ix, hix⟩ : ∃ ix, ix = Lib.indexByte m.data.toList 42 := ⟨_, rfl⟩
    have hix2 : Lib.indexByte m.data.toList (Int.toNat 42).toUInt8 = ix := hix.symm
    rw [hix2]
    have Hix := Lib.hid hix
    have Hsuf := Lib.hid hsuf
    clear hix hix2 hsuf
    by_cases hneg : ix < 0
    · go_wp2_with fail
      refine (value28x ma n mc (some ⟨g, 0, none⟩) n ec f tt m w3 (HI.out.keep HF.out.chg) hn).mono ?_
      rintro e4 w4 ⟨hv, hc4⟩
      rcases hv with ⟨i, hi, hfi, hfirst, rfl⟩ | ⟨hmiss, rfl⟩
      · exact absurd hfi (by rw [Hf.out]; exact key_ne (Hb.out i) (by have := Hix.out; omega))
      · clear hmiss
        have hF4 := HF.out.keep (hc4.trans ((Chg.refl Nowhere w4).alloc (.cells zent 59)) (fun _ _ h => h))
        have hl4 : (w4.alloc (.cells zent 59)).heap.size = w4.heap.size + 1 := by simp
        unfold zent at hF4 hl4 ⊢
        clear q0 q1 q2 q3 d0 d1 d2 d3 d4 d5 d6 z0 z1 z2 z3 z4 fz l1 l2 l3
        go_upto_if 53 with fail
        generalize hw5 : World.alloc w4 _ = w5 at hF4 hl4 ⊢
        clear hw5 hc4
        have q04 := cell_of_heap hF4.q 0
        have q14 := cell_of_heap hF4.q 1
        have q24 := cell_of_heap hF4.q 2
        have q34 := cell_of_heap hF4.q 3
        have d04 := cell_of_heap hF4.d 0
        have d14 := cell_of_heap hF4.d 1
        have d24 := cell_of_heap hF4.d 2
        have d34 := cell_of_heap hF4.d 3
        have d44 := cell_of_heap hF4.d 4
        have d54 := cell_of_heap hF4.d 5
        have d64 := cell_of_heap hF4.d 6
        have z04 := cell_of_heap hF4.z 0
        have z14 := cell_of_heap hF4.z 1
        have z24 := cell_of_heap hF4.z 2
        have z34 := cell_of_heap hF4.z 3
        have z44 := cell_of_heap hF4.z 4
        simp [rq, dbg] at q04 q14 q24 q34 d04 d14 d24 d34 d44 d54 d64 z04 z14 z24 z34 z44
        have fz4 : ∀ j, w5.frozen? ⟨w.heap.size + 1 + 1, j, none⟩ = false := fun j => frozen_of_heap hF4.z j
        have l14 := heap_lt hF4.q
        have l24 := heap_lt hF4.d
        have l34 := heap_lt hF4.z
        have HF4 := Lib.hid hF4
        clear hF4
        go_wp2_with fail
        go_loopw [76] (fun i wr => ∃ k : Nat, k ≤ n ∧ i = .int .i64 k ∧ Fr w wr #[.string ⟨#[]⟩, .slice none 0 0, .slice ma n mc, .slice (some ⟨g, 0, none⟩) n ec, .int .i32 0, .int .i32 0, .int .u8 3] #[.string ⟨#[]⟩, .slice none 0 0, .int .i32 0, .int .i32 0, .bool false] ∧ ∀ j, j < k → pfx q (b (s j)) = false) (fun i _ => n - (intOf i).toNat)
        case atStart => exact ⟨0, by omega, rfl, HF4.out, fun j hj => by omega⟩
        case round =>
          obtain ⟨k, hk, rfl, hF, hno⟩ := hrel
          have Hno := Lib.hid hno
          clear hno
          rename World => wr
          have q0 := cell_of_heap hF.q 0
          have q1 := cell_of_heap hF.q 1
          have q2 := cell_of_heap hF.q 2
          have q3 := cell_of_heap hF.q 3
          have d0 := cell_of_heap hF.d 0
          have d1 := cell_of_heap hF.d 1
          have d2 := cell_of_heap hF.d 2
          have d3 := cell_of_heap hF.d 3
          have d4 := cell_of_heap hF.d 4
          have d5 := cell_of_heap hF.d 5
          have d6 := cell_of_heap hF.d 6
          have z0 := cell_of_heap hF.z 0
          have z1 := cell_of_heap hF.z 1
          have z2 := cell_of_heap hF.z 2
          have z3 := cell_of_heap hF.z 3
          have z4 := cell_of_heap hF.z 4
          simp [rq, dbg] at q0 q1 q2 q3 d0 d1 d2 d3 d4 d5 d6 z0 z1 z2 z3 z4
          have fz : ∀ j, wr.frozen? ⟨w.heap.size + 1 + 1, j, none⟩ = false := fun j => frozen_of_heap hF.z j
          have l1 := heap_lt hF.q
          have l2 := heap_lt hF.d
          have l3 := heap_lt hF.z
          have HF := Lib.hid hF
          clear hF
          by_cases hlt : k < n
          · obtain ⟨cur, b1, b2, b3⟩ := (HT.out.keep HF.out.chg (fun h => h) : Tbl wr g n f tt s)
            have hkn := HB.out.fro k (Nat.zero_le _) hlt
            obtain ⟨B, hB⟩ : ∃ B, B = b (s k) := ⟨_, rfl⟩
            obtain ⟨D, hD⟩ : ∃ D, D = d (s k) := ⟨_, rfl⟩
            obtain ⟨ky, hky⟩ : ∃ ky, ky = f (s k) := ⟨_, rfl⟩
            obtain ⟨tg, htg⟩ : ∃ tg, tg = tt (s k) := ⟨_, rfl⟩
            have cell : ∀ x, x < 10 → wr.cell? ⟨g, k * 10 + x, none⟩ = (item ky tg)[x]? := fun x hx => by rw [cell_of_heap b1, hky, htg]; exact b3 k hlt x hx
            have i0 := cell 0 (by omega)
            have i1 := cell 1 (by omega)
            have i2 := cell 2 (by omega)
            have i3 := cell 3 (by omega)
            have i4 := cell 4 (by omega)
            have i5 := cell 5 (by omega)
            have i6 := cell 6 (by omega)
            have i7 := cell 7 (by omega)
            have i8 := cell 8 (by omega)
            have i9 := cell 9 (by omega)
            simp only [item, List.getElem?_toArray, List.getElem?_cons_succ, List.getElem?_cons_zero, Nat.add_zero] at i0 i1 i2 i3 i4 i5 i6 i7 i8 i9
            have hkz : ky.size = B.size + 3 := by rw [hky, Hf.out, ← hB, keyP_size]
            have hBs : B.size ≤ 1048576 := by rw [hB]; exact Hbz.out _ hkn.2
            have hstar : Lib.indexByte ky.data.toList (Int.toNat 42).toUInt8 = ((B.size + 2 : Nat) : Int) := by rw [hky, Hf.out, ← hB]; exact keyP_star B (by rw [hB]; exact Hb.out _)
            have hbase : ∀ n, n = B.size + 2 → ky.extract 0 n = dotted B := fun n hn => by rw [hky, Hf.out, ← hB]; exact keyP_base B n hn
            have htail : ∀ k n, k = B.size + 3 → n = ky.size → ky.extract k n = ⟨#[]⟩ := fun k n h1 h2 => by rw [hky, Hf.out, ← hB] at *; exact keyP_tail B k n h1 h2
            have hpre : Lib.hasPrefix m.data.toList (dotted B).data.toList = pfx q B := by rw [Hm.out]; exact pfx_dotted q B
            have htgt : ∀ W, pfx q B = true → Calls Tryz.prog 29 #[.agg rq, .string ⟨#[47, 112, 107, 103]⟩, .agg (sent tg), .string (q.extract B.size q.size), .bool true, .bool bi, v5] W (TgtOut (pkgD D ++ q.extract B.size q.size) 4 W) := fun W hp => by
              have hle := pfx_le hp
              have hdd := Hd.out _ hkn.2
              rw [htg, Htt.out, ← hD]
              rw [← hD] at hdd
              exact tgt_pat D _ _ bi v5 W hdd.seg hdd.ne hdd.nb hdd.ns hdd.short (nosep_sub Hq.out _ hle) (by rw [ByteArray.size_extract]; omega) rfl
            have Hky := Lib.hid hky
            have Htg := Lib.hid htg
            have HBq := Lib.hid hB
            have HDq := Lib.hid hD
            have Hst := Lib.hid hstar
            have Hba := Lib.hid hbase
            have Hta := Lib.hid htail
            have Hpr := Lib.hid hpre
            have Htt2 := Lib.hid htgt
            have hx1 : (k : Int) < (n : Int) := by omega
            have hx0 : (0 : Int) ≤ (k : Int) := by omega
            have hds := dotted_size B
            have lg := heap_lt b1
            clear cell hstar hbase htail hpre htgt hky htg hB hD b1 b2 b3 hkn
            clear d0 d1 d2 d3 d4 d5 d6
            go_upto_region 12 with fail
            have ha := heap_at wr (.cells (item ky tg) 71) _ rfl
            have hFa := HF.out.keep ((Chg.refl Nowhere wr).alloc (.cells (item ky tg) 71))
            unfold item at ha hFa
            generalize World.alloc wr _ = wa at ha hFa ⊢
            clear q0 q1 q2 q3 z0 z1 z2 z3 z4 fz l1 l2 l3 i0 i1 i2 i3 i4 i5 i6 i7 i8 i9 lg
            have j0 := cell_of_heap ha 0
            have j1 := cell_of_heap ha 1
            have j2 := cell_of_heap ha 2
            have j3 := cell_of_heap ha 3
            have j4 := cell_of_heap ha 4
            have j5 := cell_of_heap ha 5
            have j6 := cell_of_heap ha 6
            have j7 := cell_of_heap ha 7
            have j8 := cell_of_heap ha 8
            have j9 := cell_of_heap ha 9
            simp only [List.getElem?_toArray, List.getElem?_cons_succ, List.getElem?_cons_zero] at j0 j1 j2 j3 j4 j5 j6 j7 j8 j9
            clear ha
            have q0a := cell_of_heap hFa.q 0
            have q1a := cell_of_heap hFa.q 1
            have q2a := cell_of_heap hFa.q 2
            have q3a := cell_of_heap hFa.q 3
            have d0a := cell_of_heap hFa.d 0
            have d1a := cell_of_heap hFa.d 1
            have d2a := cell_of_heap hFa.d 2
            have d3a := cell_of_heap hFa.d 3
            have d4a := cell_of_heap hFa.d 4
            have d5a := cell_of_heap hFa.d 5
            have d6a := cell_of_heap hFa.d 6
            have z0a := cell_of_heap hFa.z 0
            have z1a := cell_of_heap hFa.z 1
            have z2a := cell_of_heap hFa.z 2
            have z3a := cell_of_heap hFa.z 3
            have z4a := cell_of_heap hFa.z 4
            simp [rq, dbg] at q0a q1a q2a q3a d0a d1a d2a d3a d4a d5a d6a z0a z1a z2a z3a z4a
            have fza : ∀ j, wa.frozen? ⟨w.heap.size + 1 + 1, j, none⟩ = false := fun j => frozen_of_heap hFa.z j
            have l1a := heap_lt hFa.q
            have l2a := heap_lt hFa.d
            have l3a := heap_lt hFa.z
            have HFa := Lib.hid hFa
            clear hFa
            clear d0a d1a d2a d3a d4a d5a d6a
            go_wp2_with fail
            refine (Tryz.strings_IndexByte ky 42 _).mono ?_
            rintro e5 w6 ⟨rfl, rfl⟩
            rw [Hst.out]
            have hs2 : ¬ ((B.size + 2 : Nat) : Int) < 0 := by omega
            have hs3 : (0 : Int) ≤ (B.size : Int) + 2 := by omega
            have hs4 : (B.size : Int) + 2 ≤ (ky.size : Int) := by omega
            have hs5 : (B.size : Int) + 2 + 1 ≤ (ky.size : Int) := by omega
            go_wp2_with fail
            rw [Hba.out (B.size + 2) rfl]
            refine (Tryz.strings_HasPrefix m (dotted B) _).mono ?_
            rintro e6 w7 ⟨rfl, rfl⟩
            rw [Hpr.out]
            cases hpf : pfx q B
            · have Hpf := Lib.hid hpf
              clear hpf
              go_wp2_with fail
              go_roundw
              case rel => exact ⟨k + 1, by omega, by go_num, HFa.out, fun j hj => by
                by_cases e : j = k
                · subst e; rw [← HBq.out]; exact Hpf.out
                · exact Hno.out j (by omega)⟩
              case measure => simp [intOf]; omega
            · have Hpf := Lib.hid hpf
              have hBq : B.size ≤ q.size := pfx_le hpf
              clear hpf
              go_upto_region 17 with fail
              rw [Hta.out (B.size + 2 + 1) (B.size + 3) (by omega) (by omega)]
              go_upto_region 19 with fail
              rename World => wb
              have hFb := HFa.out.keep ((Chg.refl Nowhere wb).alloc (.cells (sent tg) 59))
              have hc := heap_at wb (.cells (sent tg) 59) _ rfl
              unfold sent at hFb hc
              generalize World.alloc wb _ = wc at hFb hc ⊢
              clear j0 j1 j2 j3 j4 j5 j6 j7 j8 j9
              have t0 := cell_of_heap hc 0
              have t1 := cell_of_heap hc 1
              have t2 := cell_of_heap hc 2
              have t3 := cell_of_heap hc 3
              have t4 := cell_of_heap hc 4
              have t5 := cell_of_heap hc 5
              have t6 := cell_of_heap hc 6
              simp only [List.getElem?_toArray, List.getElem?_cons_succ, List.getElem?_cons_zero] at t0 t1 t2 t3 t4 t5 t6
              clear hc
              clear q0a q1a q2a q3a z0a z1a z2a z3a z4a fza l1a l2a l3a
              have q0b := cell_of_heap hFb.q 0
              have q1b := cell_of_heap hFb.q 1
              have q2b := cell_of_heap hFb.q 2
              have q3b := cell_of_heap hFb.q 3
              have d0b := cell_of_heap hFb.d 0
              have d1b := cell_of_heap hFb.d 1
              have d2b := cell_of_heap hFb.d 2
              have d3b := cell_of_heap hFb.d 3
              have d4b := cell_of_heap hFb.d 4
              have d5b := cell_of_heap hFb.d 5
              have d6b := cell_of_heap hFb.d 6
              have z0b := cell_of_heap hFb.z 0
              have z1b := cell_of_heap hFb.z 1
              have z2b := cell_of_heap hFb.z 2
              have z3b := cell_of_heap hFb.z 3
              have z4b := cell_of_heap hFb.z 4
              simp [rq, dbg] at q0b q1b q2b q3b d0b d1b d2b d3b d4b d5b d6b z0b z1b z2b z3b z4b
              have fzb : ∀ j, wc.frozen? ⟨w.heap.size + 1 + 1, j, none⟩ = false := fun j => frozen_of_heap hFb.z j
              have l1b := heap_lt hFb.q
              have l2b := heap_lt hFb.d
              have l3b := heap_lt hFb.z
              have HFb := Lib.hid hFb
              clear hFb
              clear d0b d1b d2b d3b d4b d5b d6b
              have hs6 : (B.size : Int) + 2 ≤ (m.size : Int) := by omega
              have hs7 : (0 : Int) ≤ (m.size : Int) := by omega
              go_wp2_with fail
              have hsub : m.extract (B.size + 2) (q.size + 2) = q.extract B.size q.size := by rw [Hm.out]; exact sub_dotted q B.size _ _ rfl rfl
              rw [hsub]
              have h29 := Htt2.out wc Hpf.out
              unfold rq sent at h29
              obtain ⟨r, hr⟩ : ∃ r, r = pkgD D ++ q.extract B.size q.size := ⟨_, rfl⟩
              rw [← hr] at h29
              have Hr := Lib.hid hr
              clear hr hsub
              refine h29.mono ?_
              rintro e8 w8 ⟨⟨t, rfl⟩, hc8⟩
              have hF8 := HFb.out.keep hc8
              clear h29 hc8 t0 t1 t2 t3 t4 t5 t6
              clear q0b q1b q2b q3b z0b z1b z2b z3b z4b fzb l1b l2b l3b
              unfold dbg
              have q08 := cell_of_heap hF8.q 0
              have q18 := cell_of_heap hF8.q 1
              have q28 := cell_of_heap hF8.q 2
              have q38 := cell_of_heap hF8.q 3
              have d08 := cell_of_heap hF8.d 0
              have d18 := cell_of_heap hF8.d 1
              have d28 := cell_of_heap hF8.d 2
              have d38 := cell_of_heap hF8.d 3
              have d48 := cell_of_heap hF8.d 4
              have d58 := cell_of_heap hF8.d 5
              have d68 := cell_of_heap hF8.d 6
              have z08 := cell_of_heap hF8.z 0
              have z18 := cell_of_heap hF8.z 1
              have z28 := cell_of_heap hF8.z 2
              have z38 := cell_of_heap hF8.z 3
              have z48 := cell_of_heap hF8.z 4
              simp [rq, dbg] at q08 q18 q28 q38 d08 d18 d28 d38 d48 d58 d68 z08 z18 z28 z38 z48
              have fz8 : ∀ j, w8.frozen? ⟨w.heap.size + 1 + 1, j, none⟩ = false := fun j => frozen_of_heap hF8.z j
              have l18 := heap_lt hF8.q
              have l28 := heap_lt hF8.d
              have l38 := heap_lt hF8.z
              have HF8 := Lib.hid hF8
              clear hF8
              go_wp2_with fail
              refine bodyPost_ret (v := .tuple #[.string r, .int .u8 4, .agg (dbg t)]) ?_ rfl ⟨⟨r, 4, t, .inl ⟨s k, win_first HB.out HL.out hlt (by rw [← HBq.out]; exact Hpf.out) Hno.out, by rw [← HBq.out, ← HDq.out]; exact Hr.out, rfl⟩, rfl⟩, st5_chg HF8.out.chg (by omega) _ _ _ _ _⟩
              exact (results_ttc (t := 12) (u := 13) (p := 14) (ty := 45) (by rfl) _ _ _ (w.heap.size + 1 + 1) _ (by rfl) (load45 (st5_heap HF8.out.z _ _ _ _ _) (by rfl))).trans (by rfl)
          · obtain rfl : k = n := by omega
            have hx1 : ¬ (k : Int) < (k : Int) := by omega
            go_wp2_with fail
            go_region
            go_wp2_with fail
            refine bodyPost_ret (v := .tuple #[.string ⟨#[]⟩, .int .u8 2, .agg (dbg ⟨#[]⟩)]) ?_ rfl ⟨⟨⟨#[]⟩, 2, ⟨#[]⟩, .inr ⟨none_of HB.out Hno.out, rfl, rfl⟩, rfl⟩, (st5_chg HF.out.chg (by omega) _ _ _ _ _).drew⟩
            exact (results_ttc (t := 12) (u := 13) (p := 14) (ty := 45) (by rfl) _ _ _ (w.heap.size + 1 + 1) _ (by rfl) (load45 ((congrArg (fun hp : Array Obj => hp[w.heap.size + 1 + 1]?) (drew_heap _)).trans (st5_heap HF.out.z _ _ _ _ _)) (by rfl))).trans (by rfl)
    · go_wp2_with fail
      go_loopw [76] (fun i wr => ∃ k : Nat, k ≤ n ∧ i = .int .i64 k ∧ Fr w wr #[.string ⟨#[]⟩, .slice none 0 0, .slice ma n mc, .slice (some ⟨g, 0, none⟩) n ec, .int .i32 0, .int .i32 0, .int .u8 3] #[.string ⟨#[]⟩, .slice none 0 0, .int .i32 0, .int .i32 0, .bool false] ∧ ∀ j, j < k → pfx q (b (s j)) = false) (fun i _ => n - (intOf i).toNat)
      case atStart => exact ⟨0, by omega, rfl, HF.out, fun j hj => by omega⟩
      case round =>
        obtain ⟨k, hk, rfl, hF, hno⟩ := hrel
        have Hno := Lib.hid hno
        clear hno
        rename World => wr
        have q0 := cell_of_heap hF.q 0
        have q1 := cell_of_heap hF.q 1
        have q2 := cell_of_heap hF.q 2
        have q3 := cell_of_heap hF.q 3
        have d0 := cell_of_heap hF.d 0
        have d1 := cell_of_heap hF.d 1
        have d2 := cell_of_heap hF.d 2
        have d3 := cell_of_heap hF.d 3
        have d4 := cell_of_heap hF.d 4
        have d5 := cell_of_heap hF.d 5
        have d6 := cell_of_heap hF.d 6
        have z0 := cell_of_heap hF.z 0
        have z1 := cell_of_heap hF.z 1
        have z2 := cell_of_heap hF.z 2
        have z3 := cell_of_heap hF.z 3
        have z4 := cell_of_heap hF.z 4
        simp [rq, dbg] at q0 q1 q2 q3 d0 d1 d2 d3 d4 d5 d6 z0 z1 z2 z3 z4
        have fz : ∀ j, wr.frozen? ⟨w.heap.size + 1 + 1, j, none⟩ = false := fun j => frozen_of_heap hF.z j
        have l1 := heap_lt hF.q
        have l2 := heap_lt hF.d
        have l3 := heap_lt hF.z
        have HF := Lib.hid hF
        clear hF
        by_cases hlt : k < n
        · obtain ⟨cur, b1, b2, b3⟩ := (HT.out.keep HF.out.chg (fun h => h) : Tbl wr g n f tt s)
          have hkn := HB.out.fro k (Nat.zero_le _) hlt
          obtain ⟨B, hB⟩ : ∃ B, B = b (s k) := ⟨_, rfl⟩
          obtain ⟨D, hD⟩ : ∃ D, D = d (s k) := ⟨_, rfl⟩
          obtain ⟨ky, hky⟩ : ∃ ky, ky = f (s k) := ⟨_, rfl⟩
          obtain ⟨tg, htg⟩ : ∃ tg, tg = tt (s k) := ⟨_, rfl⟩
          have cell : ∀ x, x < 10 → wr.cell? ⟨g, k * 10 + x, none⟩ = (item ky tg)[x]? := fun x hx => by rw [cell_of_heap b1, hky, htg]; exact b3 k hlt x hx
          have i0 := cell 0 (by omega)
          have i1 := cell 1 (by omega)
          have i2 := cell 2 (by omega)
          have i3 := cell 3 (by omega)
          have i4 := cell 4 (by omega)
          have i5 := cell 5 (by omega)
          have i6 := cell 6 (by omega)
          have i7 := cell 7 (by omega)
          have i8 := cell 8 (by omega)
          have i9 := cell 9 (by omega)
          simp only [item, List.getElem?_toArray, List.getElem?_cons_succ, List.getElem?_cons_zero, Nat.add_zero] at i0 i1 i2 i3 i4 i5 i6 i7 i8 i9
          have hkz : ky.size = B.size + 3 := by rw [hky, Hf.out, ← hB, keyP_size]
          have hBs : B.size ≤ 1048576 := by rw [hB]; exact Hbz.out _ hkn.2
          have hstar : Lib.indexByte ky.data.toList (Int.toNat 42).toUInt8 = ((B.size + 2 : Nat) : Int) := by rw [hky, Hf.out, ← hB]; exact keyP_star B (by rw [hB]; exact Hb.out _)
          have hbase : ∀ n, n = B.size + 2 → ky.extract 0 n = dotted B := fun n hn => by rw [hky, Hf.out, ← hB]; exact keyP_base B n hn
          have htail : ∀ k n, k = B.size + 3 → n = ky.size → ky.extract k n = ⟨#[]⟩ := fun k n h1 h2 => by rw [hky, Hf.out, ← hB] at *; exact keyP_tail B k n h1 h2
          have hpre : Lib.hasPrefix m.data.toList (dotted B).data.toList = pfx q B := by rw [Hm.out]; exact pfx_dotted q B
          have htgt : ∀ W, pfx q B = true → Calls Tryz.prog 29 #[.agg rq, .string ⟨#[47, 112, 107, 103]⟩, .agg (sent tg), .string (q.extract B.size q.size), .bool true, .bool bi, v5] W (TgtOut (pkgD D ++ q.extract B.size q.size) 4 W) := fun W hp => by
            have hle := pfx_le hp
            have hdd := Hd.out _ hkn.2
            rw [htg, Htt.out, ← hD]
            rw [← hD] at hdd
            exact tgt_pat D _ _ bi v5 W hdd.seg hdd.ne hdd.nb hdd.ns hdd.short (nosep_sub Hq.out _ hle) (by rw [ByteArray.size_extract]; omega) rfl
          have Hky := Lib.hid hky
          have Htg := Lib.hid htg
          have HBq := Lib.hid hB
          have HDq := Lib.hid hD
          have Hst := Lib.hid hstar
          have Hba := Lib.hid hbase
          have Hta := Lib.hid htail
          have Hpr := Lib.hid hpre
          have Htt2 := Lib.hid htgt
          have hx1 : (k : Int) < (n : Int) := by omega
          have hx0 : (0 : Int) ≤ (k : Int) := by omega
          have hds := dotted_size B
          have lg := heap_lt b1
          clear cell hstar hbase htail hpre htgt hky htg hB hD b1 b2 b3 hkn
          clear d0 d1 d2 d3 d4 d5 d6
          go_upto_region 12 with fail
          have ha := heap_at wr (.cells (item ky tg) 71) _ rfl
          have hFa := HF.out.keep ((Chg.refl Nowhere wr).alloc (.cells (item ky tg) 71))
          unfold item at ha hFa
          generalize World.alloc wr _ = wa at ha hFa ⊢
          clear q0 q1 q2 q3 z0 z1 z2 z3 z4 fz l1 l2 l3 i0 i1 i2 i3 i4 i5 i6 i7 i8 i9 lg
          have j0 := cell_of_heap ha 0
          have j1 := cell_of_heap ha 1
          have j2 := cell_of_heap ha 2
          have j3 := cell_of_heap ha 3
          have j4 := cell_of_heap ha 4
          have j5 := cell_of_heap ha 5
          have j6 := cell_of_heap ha 6
          have j7 := cell_of_heap ha 7
          have j8 := cell_of_heap ha 8
          have j9 := cell_of_heap ha 9
          simp only [List.getElem?_toArray, List.getElem?_cons_succ, List.getElem?_cons_zero] at j0 j1 j2 j3 j4 j5 j6 j7 j8 j9
          clear ha
          have q0a := cell_of_heap hFa.q 0
          have q1a := cell_of_heap hFa.q 1
          have q2a := cell_of_heap hFa.q 2
          have q3a := cell_of_heap hFa.q 3
          have d0a := cell_of_heap hFa.d 0
          have d1a := cell_of_heap hFa.d 1
          have d2a := cell_of_heap hFa.d 2
          have d3a := cell_of_heap hFa.d 3
          have d4a := cell_of_heap hFa.d 4
          have d5a := cell_of_heap hFa.d 5
          have d6a := cell_of_heap hFa.d 6
          have z0a := cell_of_heap hFa.z 0
          have z1a := cell_of_heap hFa.z 1
          have z2a := cell_of_heap hFa.z 2
          have z3a := cell_of_heap hFa.z 3
          have z4a := cell_of_heap hFa.z 4
          simp [rq, dbg] at q0a q1a q2a q3a d0a d1a d2a d3a d4a d5a d6a z0a z1a z2a z3a z4a
          have fza : ∀ j, wa.frozen? ⟨w.heap.size + 1 + 1, j, none⟩ = false := fun j => frozen_of_heap hFa.z j
          have l1a := heap_lt hFa.q
          have l2a := heap_lt hFa.d
          have l3a := heap_lt hFa.z
          have HFa := Lib.hid hFa
          clear hFa
          clear d0a d1a d2a d3a d4a d5a d6a
          go_wp2_with fail
          refine (Tryz.strings_IndexByte ky 42 _).mono ?_
          rintro e5 w6 ⟨rfl, rfl⟩
          rw [Hst.out]
          have hs2 : ¬ ((B.size + 2 : Nat) : Int) < 0 := by omega
          have hs3 : (0 : Int) ≤ (B.size : Int) + 2 := by omega
          have hs4 : (B.size : Int) + 2 ≤ (ky.size : Int) := by omega
          have hs5 : (B.size : Int) + 2 + 1 ≤ (ky.size : Int) := by omega
          go_wp2_with fail
          rw [Hba.out (B.size + 2) rfl]
          refine (Tryz.strings_HasPrefix m (dotted B) _).mono ?_
          rintro e6 w7 ⟨rfl, rfl⟩
          rw [Hpr.out]
          cases hpf : pfx q B
          · have Hpf := Lib.hid hpf
            clear hpf
            go_wp2_with fail
            go_roundw
            case rel => exact ⟨k + 1, by omega, by go_num, HFa.out, fun j hj => by
              by_cases e : j = k
              · subst e; rw [← HBq.out]; exact Hpf.out
              · exact Hno.out j (by omega)⟩
            case measure => simp [intOf]; omega
          · have Hpf := Lib.hid hpf
            have hBq : B.size ≤ q.size := pfx_le hpf
            clear hpf
            go_upto_region 17 with fail
            rw [Hta.out (B.size + 2 + 1) (B.size + 3) (by omega) (by omega)]
            go_upto_region 19 with fail
            rename World => wb
            have hFb := HFa.out.keep ((Chg.refl Nowhere wb).alloc (.cells (sent tg) 59))
            have hc := heap_at wb (.cells (sent tg) 59) _ rfl
            unfold sent at hFb hc
            generalize World.alloc wb _ = wc at hFb hc ⊢
            clear j0 j1 j2 j3 j4 j5 j6 j7 j8 j9
            have t0 := cell_of_heap hc 0
            have t1 := cell_of_heap hc 1
            have t2 := cell_of_heap hc 2
            have t3 := cell_of_heap hc 3
            have t4 := cell_of_heap hc 4
            have t5 := cell_of_heap hc 5
            have t6 := cell_of_heap hc 6
            simp only [List.getElem?_toArray, List.getElem?_cons_succ, List.getElem?_cons_zero] at t0 t1 t2 t3 t4 t5 t6
            clear hc
            clear q0a q1a q2a q3a z0a z1a z2a z3a z4a fza l1a l2a l3a
            have q0b := cell_of_heap hFb.q 0
            have q1b := cell_of_heap hFb.q 1
            have q2b := cell_of_heap hFb.q 2
            have q3b := cell_of_heap hFb.q 3
            have d0b := cell_of_heap hFb.d 0
            have d1b := cell_of_heap hFb.d 1
            have d2b := cell_of_heap hFb.d 2
            have d3b := cell_of_heap hFb.d 3
            have d4b := cell_of_heap hFb.d 4
            have d5b := cell_of_heap hFb.d 5
            have d6b := cell_of_heap hFb.d 6
            have z0b := cell_of_heap hFb.z 0
            have z1b := cell_of_heap hFb.z 1
            have z2b := cell_of_heap hFb.z 2
            have z3b := cell_of_heap hFb.z 3
            have z4b := cell_of_heap hFb.z 4
            simp [rq, dbg] at q0b q1b q2b q3b d0b d1b d2b d3b d4b d5b d6b z0b z1b z2b z3b z4b
            have fzb : ∀ j, wc.frozen? ⟨w.heap.size + 1 + 1, j, none⟩ = false := fun j => frozen_of_heap hFb.z j
            have l1b := heap_lt hFb.q
            have l2b := heap_lt hFb.d
            have l3b := heap_lt hFb.z
            have HFb := Lib.hid hFb
            clear hFb
            clear d0b d1b d2b d3b d4b d5b d6b
            have hs6 : (B.size : Int) + 2 ≤ (m.size : Int) := by omega
            have hs7 : (0 : Int) ≤ (m.size : Int) := by omega
            go_wp2_with fail
            have hsub : m.extract (B.size + 2) (q.size + 2) = q.extract B.size q.size := by rw [Hm.out]; exact sub_dotted q B.size _ _ rfl rfl
            rw [hsub]
            have h29 := Htt2.out wc Hpf.out
            unfold rq sent at h29
            obtain ⟨r, hr⟩ : ∃ r, r = pkgD D ++ q.extract B.size q.size := ⟨_, rfl⟩
            rw [← hr] at h29
            have Hr := Lib.hid hr
            clear hr hsub
            refine h29.mono ?_
            rintro e8 w8 ⟨⟨t, rfl⟩, hc8⟩
            have hF8 := HFb.out.keep hc8
            clear h29 hc8 t0 t1 t2 t3 t4 t5 t6
            clear q0b q1b q2b q3b z0b z1b z2b z3b z4b fzb l1b l2b l3b
            unfold dbg
            have q08 := cell_of_heap hF8.q 0
            have q18 := cell_of_heap hF8.q 1
            have q28 := cell_of_heap hF8.q 2
            have q38 := cell_of_heap hF8.q 3
            have d08 := cell_of_heap hF8.d 0
            have d18 := cell_of_heap hF8.d 1
            have d28 := cell_of_heap hF8.d 2
            have d38 := cell_of_heap hF8.d 3
            have d48 := cell_of_heap hF8.d 4
            have d58 := cell_of_heap hF8.d 5
            have d68 := cell_of_heap hF8.d 6
            have z08 := cell_of_heap hF8.z 0
            have z18 := cell_of_heap hF8.z 1
            have z28 := cell_of_heap hF8.z 2
            have z38 := cell_of_heap hF8.z 3
            have z48 := cell_of_heap hF8.z 4
            simp [rq, dbg] at q08 q18 q28 q38 d08 d18 d28 d38 d48 d58 d68 z08 z18 z28 z38 z48
            have fz8 : ∀ j, w8.frozen? ⟨w.heap.size + 1 + 1, j, none⟩ = false := fun j => frozen_of_heap hF8.z j
            have l18 := heap_lt hF8.q
            have l28 := heap_lt hF8.d
            have l38 := heap_lt hF8.z
            have HF8 := Lib.hid hF8
            clear hF8
            go_wp2_with fail
            refine bodyPost_ret (v := .tuple #[.string r, .int .u8 4, .agg (dbg t)]) ?_ rfl ⟨⟨r, 4, t, .inl ⟨s k, win_first HB.out HL.out hlt (by rw [← HBq.out]; exact Hpf.out) Hno.out, by rw [← HBq.out, ← HDq.out]; exact Hr.out, rfl⟩, rfl⟩, st5_chg HF8.out.chg (by omega) _ _ _ _ _⟩
            exact (results_ttc (t := 12) (u := 13) (p := 14) (ty := 45) (by rfl) _ _ _ (w.heap.size + 1 + 1) _ (by rfl) (load45 (st5_heap HF8.out.z _ _ _ _ _) (by rfl))).trans (by rfl)
        · obtain rfl : k = n := by omega
          have hx1 : ¬ (k : Int) < (k : Int) := by omega
          go_wp2_with fail
          go_region
          go_wp2_with fail
          refine bodyPost_ret (v := .tuple #[.string ⟨#[]⟩, .int .u8 2, .agg (dbg ⟨#[]⟩)]) ?_ rfl ⟨⟨⟨#[]⟩, 2, ⟨#[]⟩, .inr ⟨none_of HB.out Hno.out, rfl, rfl⟩, rfl⟩, (st5_chg HF.out.chg (by omega) _ _ _ _ _).drew⟩
          exact (results_ttc (t := 12) (u := 13) (p := 14) (ty := 45) (by rfl) _ _ _ (w.heap.size + 1 + 1) _ (by rfl) (load45 ((congrArg (fun hp : Array Obj => hp[w.heap.size + 1 + 1]?) (drew_heap _)).trans (st5_heap HF.out.z _ _ _ _ _)) (by rfl))).trans (by rfl)
  · clear hsuf
    go_wp2_with fail
    go_loopw [76] (fun i wr => ∃ k : Nat, k ≤ n ∧ i = .int .i64 k ∧ Fr w wr #[.string ⟨#[]⟩, .slice none 0 0, .slice ma n mc, .slice (some ⟨g, 0, none⟩) n ec, .int .i32 0, .int .i32 0, .int .u8 3] #[.string ⟨#[]⟩, .slice none 0 0, .int .i32 0, .int .i32 0, .bool false] ∧ ∀ j, j < k → pfx q (b (s j)) = false) (fun i _ => n - (intOf i).toNat)
    case atStart => exact ⟨0, by omega, rfl, HF.out, fun j hj => by omega⟩
    case round =>
      obtain ⟨k, hk, rfl, hF, hno⟩ := hrel
      have Hno := Lib.hid hno
      clear hno
      rename World => wr
      have q0 := cell_of_heap hF.q 0
      have q1 := cell_of_heap hF.q 1
      have q2 := cell_of_heap hF.q 2
      have q3 := cell_of_heap hF.q 3
      have d0 := cell_of_heap hF.d 0
      have d1 := cell_of_heap hF.d 1
      have d2 := cell_of_heap hF.d 2
      have d3 := cell_of_heap hF.d 3
      have d4 := cell_of_heap hF.d 4
      have d5 := cell_of_heap hF.d 5
      have d6 := cell_of_heap hF.d 6
      have z0 := cell_of_heap hF.z 0
      have z1 := cell_of_heap hF.z 1
      have z2 := cell_of_heap hF.z 2
      have z3 := cell_of_heap hF.z 3
      have z4 := cell_of_heap hF.z 4
      simp [rq, dbg] at q0 q1 q2 q3 d0 d1 d2 d3 d4 d5 d6 z0 z1 z2 z3 z4
      have fz : ∀ j, wr.frozen? ⟨w.heap.size + 1 + 1, j, none⟩ = false := fun j => frozen_of_heap hF.z j
      have l1 := heap_lt hF.q
      have l2 := heap_lt hF.d
      have l3 := heap_lt hF.z
      have HF := Lib.hid hF
      clear hF
      by_cases hlt : k < n
      · obtain ⟨cur, b1, b2, b3⟩ := (HT.out.keep HF.out.chg (fun h => h) : Tbl wr g n f tt s)
        have hkn := HB.out.fro k (Nat.zero_le _) hlt
        obtain ⟨B, hB⟩ : ∃ B, B = b (s k) := ⟨_, rfl⟩
        obtain ⟨D, hD⟩ : ∃ D, D = d (s k) := ⟨_, rfl⟩
        obtain ⟨ky, hky⟩ : ∃ ky, ky = f (s k) := ⟨_, rfl⟩
        obtain ⟨tg, htg⟩ : ∃ tg, tg = tt (s k) := ⟨_, rfl⟩
        have cell : ∀ x, x < 10 → wr.cell? ⟨g, k * 10 + x, none⟩ = (item ky tg)[x]? := fun x hx => by rw [cell_of_heap b1, hky, htg]; exact b3 k hlt x hx
        have i0 := cell 0 (by omega)
        have i1 := cell 1 (by omega)
        have i2 := cell 2 (by omega)
        have i3 := cell 3 (by omega)
        have i4 := cell 4 (by omega)
        have i5 := cell 5 (by omega)
        have i6 := cell 6 (by omega)
        have i7 := cell 7 (by omega)
        have i8 := cell 8 (by omega)
        have i9 := cell 9 (by omega)
        simp only [item, List.getElem?_toArray, List.getElem?_cons_succ, List.getElem?_cons_zero, Nat.add_zero] at i0 i1 i2 i3 i4 i5 i6 i7 i8 i9
        have hkz : ky.size = B.size + 3 := by rw [hky, Hf.out, ← hB, keyP_size]
        have hBs : B.size ≤ 1048576 := by rw [hB]; exact Hbz.out _ hkn.2
        have hstar : Lib.indexByte ky.data.toList (Int.toNat 42).toUInt8 = ((B.size + 2 : Nat) : Int) := by rw [hky, Hf.out, ← hB]; exact keyP_star B (by rw [hB]; exact Hb.out _)
        have hbase : ∀ n, n = B.size + 2 → ky.extract 0 n = dotted B := fun n hn => by rw [hky, Hf.out, ← hB]; exact keyP_base B n hn
        have htail : ∀ k n, k = B.size + 3 → n = ky.size → ky.extract k n = ⟨#[]⟩ := fun k n h1 h2 => by rw [hky, Hf.out, ← hB] at *; exact keyP_tail B k n h1 h2
        have hpre : Lib.hasPrefix m.data.toList (dotted B).data.toList = pfx q B := by rw [Hm.out]; exact pfx_dotted q B
        have htgt : ∀ W, pfx q B = true → Calls Tryz.prog 29 #[.agg rq, .string ⟨#[47, 112, 107, 103]⟩, .agg (sent tg), .string (q.extract B.size q.size), .bool true, .bool bi, v5] W (TgtOut (pkgD D ++ q.extract B.size q.size) 4 W) := fun W hp => by
          have hle := pfx_le hp
          have hdd := Hd.out _ hkn.2
          rw [htg, Htt.out, ← hD]
          rw [← hD] at hdd
          exact tgt_pat D _ _ bi v5 W hdd.seg hdd.ne hdd.nb hdd.ns hdd.short (nosep_sub Hq.out _ hle) (by rw [ByteArray.size_extract]; omega) rfl
        have Hky := Lib.hid hky
        have Htg := Lib.hid htg
        have HBq := Lib.hid hB
        have HDq := Lib.hid hD
        have Hst := Lib.hid hstar
        have Hba := Lib.hid hbase
        have Hta := Lib.hid htail
        have Hpr := Lib.hid hpre
        have Htt2 := Lib.hid htgt
        have hx1 : (k : Int) < (n : Int) := by omega
        have hx0 : (0 : Int) ≤ (k : Int) := by omega
        have hds := dotted_size B
        have lg := heap_lt b1
        clear cell hstar hbase htail hpre htgt hky htg hB hD b1 b2 b3 hkn
        clear d0 d1 d2 d3 d4 d5 d6
        go_upto_region 12 with fail
        have ha := heap_at wr (.cells (item ky tg) 71) _ rfl
        have hFa := HF.out.keep ((Chg.refl Nowhere wr).alloc (.cells (item ky tg) 71))
        unfold item at ha hFa
        generalize World.alloc wr _ = wa at ha hFa ⊢
        clear q0 q1 q2 q3 z0 z1 z2 z3 z4 fz l1 l2 l3 i0 i1 i2 i3 i4 i5 i6 i7 i8 i9 lg
        have j0 := cell_of_heap ha 0
        have j1 := cell_of_heap ha 1
        have j2 := cell_of_heap ha 2
        have j3 := cell_of_heap ha 3
        have j4 := cell_of_heap ha 4
        have j5 := cell_of_heap ha 5
        have j6 := cell_of_heap ha 6
        have j7 := cell_of_heap ha 7
        have j8 := cell_of_heap ha 8
        have j9 := cell_of_heap ha 9
        simp only [List.getElem?_toArray, List.getElem?_cons_succ, List.getElem?_cons_zero] at j0 j1 j2 j3 j4 j5 j6 j7 j8 j9
        clear ha
        have q0a := cell_of_heap hFa.q 0
        have q1a := cell_of_heap hFa.q 1
        have q2a := cell_of_heap hFa.q 2
        have q3a := cell_of_heap hFa.q 3
        have d0a := cell_of_heap hFa.d 0
        have d1a := cell_of_heap hFa.d 1
        have d2a := cell_of_heap hFa.d 2
        have d3a := cell_of_heap hFa.d 3
        have d4a := cell_of_heap hFa.d 4
        have d5a := cell_of_heap hFa.d 5
        have d6a := cell_of_heap hFa.d 6
        have z0a := cell_of_heap hFa.z 0
        have z1a := cell_of_heap hFa.z 1
        have z2a := cell_of_heap hFa.z 2
        have z3a := cell_of_heap hFa.z 3
        have z4a := cell_of_heap hFa.z 4
        simp [rq, dbg] at q0a q1a q2a q3a d0a d1a d2a d3a d4a d5a d6a z0a z1a z2a z3a z4a
        have fza : ∀ j, wa.frozen? ⟨w.heap.size + 1 + 1, j, none⟩ = false := fun j => frozen_of_heap hFa.z j
        have l1a := heap_lt hFa.q
        have l2a := heap_lt hFa.d
        have l3a := heap_lt hFa.z
        have HFa := Lib.hid hFa
        clear hFa
        clear d0a d1a d2a d3a d4a d5a d6a
        go_wp2_with fail
        refine (Tryz.strings_IndexByte ky 42 _).mono ?_
        rintro e5 w6 ⟨rfl, rfl⟩
        rw [Hst.out]
        have hs2 : ¬ ((B.size + 2 : Nat) : Int) < 0 := by omega
        have hs3 : (0 : Int) ≤ (B.size : Int) + 2 := by omega
        have hs4 : (B.size : Int) + 2 ≤ (ky.size : Int) := by omega
        have hs5 : (B.size : Int) + 2 + 1 ≤ (ky.size : Int) := by omega
        go_wp2_with fail
        rw [Hba.out (B.size + 2) rfl]
        refine (Tryz.strings_HasPrefix m (dotted B) _).mono ?_
        rintro e6 w7 ⟨rfl, rfl⟩
        rw [Hpr.out]
        cases hpf : pfx q B
        · have Hpf := Lib.hid hpf
          clear hpf
          go_wp2_with fail
          go_roundw
          case rel => exact ⟨k + 1, by omega, by go_num, HFa.out, fun j hj => by
            by_cases e : j = k
            · subst e; rw [← HBq.out]; exact Hpf.out
            · exact Hno.out j (by omega)⟩
          case measure => simp [intOf]; omega
        · have Hpf := Lib.hid hpf
          have hBq : B.size ≤ q.size := pfx_le hpf
          clear hpf
          go_upto_region 17 with fail
          rw [Hta.out (B.size + 2 + 1) (B.size + 3) (by omega) (by omega)]
          go_upto_region 19 with fail
          rename World => wb
          have hFb := HFa.out.keep ((Chg.refl Nowhere wb).alloc (.cells (sent tg) 59))
          have hc := heap_at wb (.cells (sent tg) 59) _ rfl
          unfold sent at hFb hc
          generalize World.alloc wb _ = wc at hFb hc ⊢
          clear j0 j1 j2 j3 j4 j5 j6 j7 j8 j9
          have t0 := cell_of_heap hc 0
          have t1 := cell_of_heap hc 1
          have t2 := cell_of_heap hc 2
          have t3 := cell_of_heap hc 3
          have t4 := cell_of_heap hc 4
          have t5 := cell_of_heap hc 5
          have t6 := cell_of_heap hc 6
          simp only [List.getElem?_toArray, List.getElem?_cons_succ, List.getElem?_cons_zero] at t0 t1 t2 t3 t4 t5 t6
          clear hc
          clear q0a q1a q2a q3a z0a z1a z2a z3a z4a fza l1a l2a l3a
          have q0b := cell_of_heap hFb.q 0
          have q1b := cell_of_heap hFb.q 1
          have q2b := cell_of_heap hFb.q 2
          have q3b := cell_of_heap hFb.q 3
          have d0b := cell_of_heap hFb.d 0
          have d1b := cell_of_heap hFb.d 1
          have d2b := cell_of_heap hFb.d 2
          have d3b := cell_of_heap hFb.d 3
          have d4b := cell_of_heap hFb.d 4
          have d5b := cell_of_heap hFb.d 5
          have d6b := cell_of_heap hFb.d 6
          have z0b := cell_of_heap hFb.z 0
          have z1b := cell_of_heap hFb.z 1
          have z2b := cell_of_heap hFb.z 2
          have z3b := cell_of_heap hFb.z 3
          have z4b := cell_of_heap hFb.z 4
          simp [rq, dbg] at q0b q1b q2b q3b d0b d1b d2b d3b d4b d5b d6b z0b z1b z2b z3b z4b
          have fzb : ∀ j, wc.frozen? ⟨w.heap.size + 1 + 1, j, none⟩ = false := fun j => frozen_of_heap hFb.z j
          have l1b := heap_lt hFb.q
          have l2b := heap_lt hFb.d
          have l3b := heap_lt hFb.z
          have HFb := Lib.hid hFb
          clear hFb
          clear d0b d1b d2b d3b d4b d5b d6b
          have hs6 : (B.size : Int) + 2 ≤ (m.size : Int) := by omega
          have hs7 : (0 : Int) ≤ (m.size : Int) := by omega
          go_wp2_with fail
          have hsub : m.extract (B.size + 2) (q.size + 2) = q.extract B.size q.size := by rw [Hm.out]; exact sub_dotted q B.size _ _ rfl rfl
          rw [hsub]
          have h29 := Htt2.out wc Hpf.out
          unfold rq sent at h29
          obtain ⟨r, hr⟩ : ∃ r, r = pkgD D ++ q.extract B.size q.size := ⟨_, rfl⟩
          rw [← hr] at h29
          have Hr := Lib.hid hr
          clear hr hsub
          refine h29.mono ?_
          rintro e8 w8 ⟨⟨t, rfl⟩, hc8⟩
          have hF8 := HFb.out.keep hc8
          clear h29 hc8 t0 t1 t2 t3 t4 t5 t6
          clear q0b q1b q2b q3b z0b z1b z2b z3b z4b fzb l1b l2b l3b
          unfold dbg
          have q08 := cell_of_heap hF8.q 0
          have q18 := cell_of_heap hF8.q 1
          have q28 := cell_of_heap hF8.q 2
          have q38 := cell_of_heap hF8.q 3
          have d08 := cell_of_heap hF8.d 0
          have d18 := cell_of_heap hF8.d 1
          have d28 := cell_of_heap hF8.d 2
          have d38 := cell_of_heap hF8.d 3
          have d48 := cell_of_heap hF8.d 4
          have d58 := cell_of_heap hF8.d 5
          have d68 := cell_of_heap hF8.d 6
          have z08 := cell_of_heap hF8.z 0
          have z18 := cell_of_heap hF8.z 1
          have z28 := cell_of_heap hF8.z 2
          have z38 := cell_of_heap hF8.z 3
          have z48 := cell_of_heap hF8.z 4
          simp [rq, dbg] at q08 q18 q28 q38 d08 d18 d28 d38 d48 d58 d68 z08 z18 z28 z38 z48
          have fz8 : ∀ j, w8.frozen? ⟨w.heap.size + 1 + 1, j, none⟩ = false := fun j => frozen_of_heap hF8.z j
          have l18 := heap_lt hF8.q
          have l28 := heap_lt hF8.d
          have l38 := heap_lt hF8.z
          have HF8 := Lib.hid hF8
          clear hF8
          go_wp2_with fail
          refine bodyPost_ret (v := .tuple #[.string r, .int .u8 4, .agg (dbg t)]) ?_ rfl ⟨⟨r, 4, t, .inl ⟨s k, win_first HB.out HL.out hlt (by rw [← HBq.out]; exact Hpf.out) Hno.out, by rw [← HBq.out, ← HDq.out]; exact Hr.out, rfl⟩, rfl⟩, st5_chg HF8.out.chg (by omega) _ _ _ _ _⟩
          exact (results_ttc (t := 12) (u := 13) (p := 14) (ty := 45) (by rfl) _ _ _ (w.heap.size + 1 + 1) _ (by rfl) (load45 (st5_heap HF8.out.z _ _ _ _ _) (by rfl))).trans (by rfl)
      · obtain rfl : k = n := by omega
        have hx1 : ¬ (k : Int) < (k : Int) := by omega
        go_wp2_with fail
        go_region
        go_wp2_with fail
        refine bodyPost_ret (v := .tuple #[.string ⟨#[]⟩, .int .u8 2, .agg (dbg ⟨#[]⟩)]) ?_ rfl ⟨⟨⟨#[]⟩, 2, ⟨#[]⟩, .inr ⟨none_of HB.out Hno.out, rfl, rfl⟩, rfl⟩, (st5_chg HF.out.chg (by omega) _ _ _ _ _).drew⟩
        exact (results_ttc (t := 12) (u := 13) (p := 14) (ty := 45) (by rfl) _ _ _ (w.heap.size + 1 + 1) _ (by rfl) (load45 ((congrArg (fun hp : Array Obj => hp[w.heap.size + 1 + 1]?) (drew_heap _)).trans (st5_heap HF.out.z _ _ _ _ _)) (by rfl))).trans (by rfl)
end Go.Proofs.YtcbmankbjgbjgaaGreatFmt
