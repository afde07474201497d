/-
  Proved: the contract of matchQueryPathToResult. No statement of the seat stands here.
-/
import Derived.Test.YtambbfgmbfamkaaGreatDoorScan
namespace Go.Proofs.YtambbfgmbfamkaaGreatDoor
open Go.RowKit Go.ChangeAt
set_option linter.unusedSimpArgs false
set_option linter.unusedVariables false
set_option maxRecDepth 100000
theorem toList_beq {a b : ByteArray} {r : Bool} (h : (a.toList == b.toList) = r) : (r = true → a = b) ∧ (r = false → a ≠ b) := by
  rw [ByteArray.toList_eq, ByteArray.toList_eq] at h
  refine ⟨fun e => ?_, fun e => ?_⟩
  · subst e; exact of_list (beq_iff_eq.1 h)
  · subst e; rintro rfl; exact absurd rfl (beq_eq_false_iff_ne.1 h)
set_option maxHeartbeats 4000000 in
theorem match15 (h m R g n cp bD bF kD kF : Nat) (q : ByteArray) (f : Nat → ByteArray) (c : Nat → Option Addr × Nat × Nat) (KD KF : List (List UInt8)) (w : World) (hq : q.size ≤ 1048576) (hn : n ≤ 1048576) (hcp : n ≤ cp) (hcm : cp ≤ 9223372036854775807)
    (hh : IsHand w h m outB) (hR : w.cell? ⟨R, 2, none⟩ = some (.slice (some ⟨g, 0, none⟩) n cp)) (hF : Fil w g n f c)
    (hD : SetAt Tryz.prog 9 4 w bD kD KD) (hE : SetAt Tryz.prog 9 4 w bF kF KF) (hsep : ∀ x, x = h ∨ x = m ∨ x = R ∨ x = g → ¬ Two bD bF x) (hne : bD ≠ bF) (hkD : kD ≤ 1048576) (hkF : kF ≤ 1048576) (hrl : ∀ i, i < n → Rel (f i).data.toList ∧ (f i).size ≤ 1048576) :
    Calls Tryz.prog 15 #[.pointer (some ⟨h, 0, none⟩), .string q, .pointer (some ⟨R, 0, none⟩), .map (some bD), .map (some bF)] w (MOut w f c n q bD bF kD kF KD KF) := by
  have c1 := hh.fs
  have c2 := hh.dir
  have Hh := Lib.hid hh
  have HF := Lib.hid hF
  have HS := Lib.hid (show Scan w w f q bD bF kD kF KD KF 0 from ⟨fun j hj => by omega, hD, hE, Chg.refl _ _⟩)
  have Hsep := Lib.hid hsep
  have Hne := Lib.hid hne
  have hqs := qdir_size q
  have Hrl := Lib.hid hrl
  clear hrl
  clear hh hF hD hE hsep hne
  go_enter Tryz.func15, Tryz.ntmps15
  go_upto_if 27 with fail
  go_cut [15] (fun x wx => x = .string (qdir q) ∧ wx = w)
  case first =>
    cases hb : q.toList.isEmpty
    · have e := Lib.hid (qdir_cons hb)
      have hb2 : (!q.toList.isEmpty) = true := by rw [hb]; rfl
      have hx : ¬ 9223372036854775807 < q.size + 1 := by omega
      go_wp2_with fail
      go_meet
      case rel => exact ⟨congrArg Value.string e.out.symm, rfl⟩
    · have e := Lib.hid (qdir_nil hb)
      have hb2 : (!q.toList.isEmpty) = false := by rw [hb]; rfl
      go_wp2_with fail
      go_meet
      case rel => exact ⟨congrArg Value.string e.out.symm, rfl⟩
  case rest =>
  obtain ⟨rfl, rfl⟩ := hcut
  rename World => w
  go_wp2_with fail
  go_loopw [14, 35] (fun a i wr => ∃ k : Nat, k ≤ n ∧ i = .int .i64 k ∧ a = .bool (anyP f (qdir q) k) ∧ Scan w wr f q bD bF kD kF KD KF k) (fun _ i _ => n - (intOf i).toNat)
  case atStart => exact ⟨0, by omega, rfl, rfl, HS.out⟩
  case round =>
    obtain ⟨k, hk, rfl, rfl, hsc⟩ := hrel
    rename World => wr
    have d1 := hsc.chg.cell c1 (Hsep.out h (.inl rfl))
    have d2 := hsc.chg.cell c2 (Hsep.out h (.inl rfl))
    have Hsc := Lib.hid hsc
    by_cases hlt : k < n
    · obtain ⟨f1, f2, f3⟩ := HF.out k hlt
      have e1 := hsc.chg.cell f1 (Hsep.out g (.inr (.inr (.inr rfl))))
      have e2 := hsc.chg.cell f2 (Hsep.out g (.inr (.inr (.inr rfl))))
      have e3 := hsc.chg.cell f3 (Hsep.out g (.inr (.inr (.inr rfl))))
      have hx : (k : Int) < (n : Int) := by omega
      have hx0 : (0 : Int) ≤ (k : Int) := by omega
      clear f1 f2 f3 hsc
      go_wp2_with fail
      have z1 : (wr.alloc (.cells #[.string (outS ++ f k), .slice (c k).1 (c k).2.1 (c k).2.2, .string ⟨#[]⟩] 30)).heap[wr.heap.size]? = some (.cells #[.string (outS ++ f k), .slice (c k).1 (c k).2.1 (c k).2.2, .string ⟨#[]⟩] 30 (0, 0)) := heap_alloc_new _ _
      have z2 : Chg Nowhere wr (wr.alloc (.cells #[.string (outS ++ f k), .slice (c k).1 (c k).2.1 (c k).2.2, .string ⟨#[]⟩] 30)) := (Chg.refl _ _).alloc _
      have z3 := heap_lt z1
      generalize wr.alloc (.cells #[.string (outS ++ f k), .slice (c k).1 (c k).2.1 (c k).2.2, .string ⟨#[]⟩] 30) = W1 at z1 z2 z3 ⊢
      generalize wr.heap.size = p at z1 z3 ⊢
      have y0 := cell_of_heap z1 0
      have y1 := cell_of_heap z1 1
      simp only [List.getElem?_toArray, List.getElem?_cons_succ, List.getElem?_cons_zero] at y0 y1
      have d1' := z2.cell d1 (fun h => h)
      have d2' := z2.cell d2 (fun h => h)
      have hm4 := z2.cell (Hsc.out.chg.cell Hh.out.mock (Hsep.out m (.inr (.inl rfl)))) (fun h => h)
      have HM4 := Lib.hid hm4
      have Z1 := Lib.hid z1
      have Z2 := Lib.hid z2
      clear z1 z2 hm4
      go_cut [18, 19] (fun x y wx => x = .string (f k) ∧ y = .bool true ∧ Chg Nowhere W1 wx)
      case first =>
        have hr1 := Hrl.out k hlt
        have HR1 := Lib.hid hr1
        clear hr1
        have hmt : ∀ W, (method 400 86 (.pointer (some ⟨m, 0, none⟩)) "Rel").run Tryz.prog W = .ok (88, .pointer (some ⟨m, 0, none⟩)) W := fun W => by kernel_rfl
        go_region_with (go_at_call 88; go_must (refine (rel88 m (f k) _ (by exact HM4.out) HR1.out.1 HR1.out.2).mono ?_; rintro e w' ⟨rfl, hch⟩; have HC := Lib.hid hch; clear hch))
        all_goals (
          go_wp2_with fail
          go_meet
          (case rel =>
            first
              | exact ⟨rfl, rfl, HC.out⟩
              | exact ⟨rfl, rfl, HC.out.drew⟩
              | exact ⟨rfl, rfl, ((Chg.refl _ W1).drew).trans HC.out (fun _ _ h => h)⟩
              | exact ⟨rfl, rfl, (((Chg.refl _ W1).drew).trans HC.out (fun _ _ h => h)).drew⟩))
      case rest =>
        obtain ⟨rfl, rfl, hch⟩ := hcut
        have hr1 := Hrl.out k hlt
        have hrp := Lib.hid (rep22 (f k) wc (by omega) (rel_pos _ hr1.1) (rel_no92 _ hr1.1))
        have HR1 := Lib.hid hr1.1
        have hsz := hr1.2
        have Hcx := Lib.hid hch
        clear hr1 hch
        go_wp2_with fail
        refine hrp.out.mono ?_
        rintro e1 w3 ⟨rfl, hc3⟩
        have h3 := Hcx.out.trans hc3 (fun _ _ h => h)
        have H3 := Lib.hid h3
        have v0 := h3.cell y0 (fun h => h)
        have v1 := h3.cell y1 (fun h => h)
        have SC := Lib.hid (Hsc.out.keep (Z2.out.trans h3 (fun _ _ h => h)))
        clear hc3 h3
        cases hqe : ((f k).toList == q.toList)
        · have hqn := (toList_beq hqe).2 rfl
          have Hqn := Lib.hid hqn
          clear hqn
          go_wp2_with fail
          refine (Tryz.path_Split (f k) w3 (by omega)).mono ?_
          rintro e1 w4 ⟨rfl, nd, rfl⟩
          have v2 := (Chg.refl Nowhere w3).drewN nd
          have SC4 := Lib.hid (SC.out.keep v2)
          have g0 := v2.cell v0 (fun h => h)
          have g1 := v2.cell v1 (fun h => h)
          clear v2 v0 v1
          have hsi := split_idx (f k) (qdir q) (qdir_end q)
          have Hsi := Lib.hid hsi
          clear hsi
          generalize w3.drewN nd = w4 at SC4 g0 g1 ⊢
          have hDx : (⟨(Lib.Pa.split (f k).data.toList).1.toArray⟩ : ByteArray).data.toList = (Lib.Pa.split (f k).data.toList).1 := rfl
          have hBx : (⟨(Lib.Pa.split (f k).data.toList).2.toArray⟩ : ByteArray).data.toList = (Lib.Pa.split (f k).data.toList).2 := rfl
          generalize (⟨(Lib.Pa.split (f k).data.toList).1.toArray⟩ : ByteArray) = Dx at hDx ⊢
          generalize (⟨(Lib.Pa.split (f k).data.toList).2.toArray⟩ : ByteArray) = Bx at hBx ⊢
          have HDx := Lib.hid hDx
          have HBx := Lib.hid hBx
          clear hDx hBx
          go_upto_region 14 with fail
          go_cut [76] (fun x wx => x = .bool (decide (Hit (f k) q)) ∧ wx = w4)
          case first =>
            cases hb1 : (Bx.toList == [105, 110, 100, 101, 120, 46, 104, 116, 109, 108])
            · have n1 : ¬ Bx.data.toList = idxB.data.toList := by
                rw [ByteArray.toList_eq] at hb1
                exact beq_eq_false_iff_ne.1 hb1
              have N1 := Lib.hid (decide_eq_false (p := Hit (f k) q) (fun h => h.elim Hqn.out (fun h => n1 (HBx.out.trans (Hsi.out.1 h).1))))
              clear n1
              go_wp2_with fail
              go_meet
              case rel => exact ⟨congrArg Value.bool N1.out.symm, rfl⟩
            · have n1 : Bx.data.toList = idxB.data.toList := by
                rw [ByteArray.toList_eq] at hb1
                exact beq_iff_eq.1 hb1
              have N1 := Lib.hid n1
              clear n1
              cases hb2 : ((qdir q).toList == Dx.toList)
              · have n2 := (toList_beq hb2).2 rfl
                have N2 := Lib.hid (decide_eq_false (p := Hit (f k) q) (fun h => h.elim Hqn.out (fun h => n2 (of_list ((Hsi.out.1 h).2.trans HDx.out.symm)))))
                clear n2
                go_wp2_with fail
                go_meet
                case rel => exact ⟨congrArg Value.bool N2.out.symm, rfl⟩
              · have n2 := (toList_beq hb2).1 rfl
                have N2 := Lib.hid (decide_eq_true (p := Hit (f k) q) (.inr (Hsi.out.2 ⟨HBx.out.symm.trans N1.out, (congrArg (fun z : ByteArray => z.data.toList) n2).trans HDx.out⟩)))
                clear n2
                go_wp2_with fail
                go_meet
                case rel => exact ⟨congrArg Value.bool N2.out.symm, rfl⟩
          case rest =>
          obtain ⟨rfl, rfl⟩ := hcut
          by_cases hno : Hit (f k) q
          · have hdx := decide_eq_true hno
            have Hno := Lib.hid hno
            clear hno
            go_wp2_with fail
            go_quiet (fail)
            go_wp2_with fail
            ((try simp only [Exit.inBlock, Exit.then]); refine bodyPost_ret (results_tmp4 rfl _ _ _) rfl ?_)
            refine .inl ⟨k, hlt, Hno.out, SC4.out.keep ((Chg.refl _ _).drewN _), ?_⟩
            rw [decide_eq_true Hqn.out]
            rfl
          have hdx := decide_eq_false hno
          have Hno := Lib.hid hno
          clear hno g0 g1
          go_wp2_with fail
          have hpf := Tryz.strings_HasPrefix (f k) (qdir q) wc
          rw [pre_eq] at hpf
          refine hpf.mono ?_
          rintro e1 w5 ⟨rfl, rfl⟩
          clear hpf
          cases hpr : pre (f k) (qdir q)
          · have Hpr := Lib.hid hpr
            clear hpr
            go_wp2_with fail
            go_roundw
            case rel => exact ⟨k + 1, by omega, by go_num, by show _ = Value.bool (anyP f (qdir q) k || pre (f k) (qdir q)); rw [Hpr.out, Bool.or_false], SC4.out.none Hno.out Hpr.out⟩
            case measure => first | (simp [intOf]; done) | (simp [intOf]; omega)
          · have hps : (qdir q).size ≤ (f k).size := by
              have := hpr
              unfold pre at this
              rw [Bool.and_eq_true] at this
              exact of_decide_eq_true this.1
            have Hpr := Lib.hid hpr
            have hany : anyP f (qdir q) (k + 1) = true := by
              show (anyP f (qdir q) k || pre (f k) (qdir q)) = true
              rw [hpr, Bool.or_true]
            have Hany := Lib.hid hany
            clear hpr hany
            have p1 : ((qdir q).size : Int) ≤ ((f k).size : Int) := by omega
            have p2 : (0 : Int) ≤ ((qdir q).size : Int) := by omega
            have hes := ent_size (f k) (qdir q)
            go_wp2_with fail
            have hen : (f k).extract (qdir q).size (f k).size = ent (f k) (qdir q) := rfl
            obtain ⟨E, hE⟩ : ∃ E, E = ent (f k) (qdir q) := ⟨_, rfl⟩
            rw [hen, ← hE]
            rw [← hE] at hes
            have hix := Tryz.strings_IndexByte E 47 w5
            have hge := Lib.indexByte_ge E.data.toList 47
            have hE' := Lib.hid hE
            clear hE hen
            have hix' : Calls Tryz.prog 25 #[.string E, .int .u8 47] w5 fun e w' => e = .returned (.int .i64 (Lib.indexByte E.data.toList 47)) ∧ w' = w5 := hix
            clear hix
            by_cases h1 : Lib.indexByte E.data.toList 47 = -1
            · rw [h1] at hix'
              refine hix'.mono ?_
              rintro e1 w6 ⟨rfl, rfl⟩
              clear hix' hge
              obtain ⟨w7, hput, hset, hch7⟩ := run_set_put (t := 35) Tryz.underlying35 Tryz.underlying9 Tryz.underlying4 SC4.out.e (by omega) E (by unfold maxLen; omega)
              have H7 := Lib.hid (And.intro hset hch7)
              have H1 := Lib.hid h1
              clear hset hch7 h1
              go_wp2_with fail
              go_roundw
              case rel => exact ⟨k + 1, by omega, by go_num, congrArg Value.bool Hany.out.symm, SC4.out.file Hno.out Hpr.out (by rw [← hE'.out]; exact H1.out) Hne.out (by rw [← hE'.out]; exact H7.out.1) H7.out.2⟩
              case measure => first | (simp [intOf]; done) | (simp [intOf]; omega)
            · obtain ⟨i, hi⟩ : ∃ i : Nat, Lib.indexByte E.data.toList 47 = i := ⟨(Lib.indexByte E.data.toList 47).toNat, by omega⟩
              have hil : i < E.size := by
                rw [← len_list]
                exact (List.getElem?_eq_some_iff.1 (Lib.indexByte_some hi).1).1
              rw [hi] at hix'
              refine hix'.mono ?_
              rintro e1 w6 ⟨rfl, rfl⟩
              clear hix' hge h1
              have q1 : (i : Int) ≤ (E.size : Int) := by omega
              have q2 : (0 : Int) ≤ (i : Int) := by omega
              have q3 : ((i : Int) == -1) = false := beq_eq_false_iff_ne.2 (by omega)
              have hxs : (E.extract 0 i).size ≤ maxLen := by rw [ByteArray.size_extract]; unfold maxLen; omega
              have hget := run_set_get (t := 35) Tryz.underlying35 Tryz.underlying9 Tryz.underlying4 Tryz.zeroValue4 SC4.out.d (E.extract 0 i) hxs
              have HI := Lib.hid hi
              clear hi
              by_cases hmem : (E.extract 0 i).data.toList ∈ gatD f (qdir q) k ++ KD
              · rw [decide_eq_true hmem] at hget
                have HM := Lib.hid hmem
                clear hmem
                go_wp2_with fail
                go_roundw
                case rel => exact ⟨k + 1, by omega, by go_num, congrArg Value.bool Hany.out.symm, SC4.out.dirOld Hno.out Hpr.out (by rw [← hE'.out]; exact HI.out) (by rw [← hE'.out]; exact HM.out)⟩
                case measure => first | (simp [intOf]; done) | (simp [intOf]; omega)
              · rw [decide_eq_false hmem] at hget
                clear hmem
                obtain ⟨w7, hput, hset, hch7⟩ := run_set_put (t := 35) Tryz.underlying35 Tryz.underlying9 Tryz.underlying4 SC4.out.d (by omega) (E.extract 0 i) hxs
                have H7 := Lib.hid (And.intro hset hch7)
                clear hset hch7
                go_wp2_with fail
                go_roundw
                case rel => exact ⟨k + 1, by omega, by go_num, congrArg Value.bool Hany.out.symm, SC4.out.dirNew Hno.out Hpr.out (by rw [← hE'.out]; exact HI.out) Hne.out (by rw [← hE'.out]; exact H7.out.1) H7.out.2⟩
                case measure => first | (simp [intOf]; done) | (simp [intOf]; omega)
        · have hqn := (toList_beq hqe).1 rfl
          have Hqn := Lib.hid hqn
          clear hqn
          go_wp2_with fail
          go_quiet (fail)
          go_wp2_with fail
          ((try simp only [Exit.inBlock, Exit.then]); refine bodyPost_ret (results_tmp4 rfl _ _ _) rfl ?_)
          refine .inl ⟨k, hlt, .inl Hqn.out, SC.out.keep ((Chg.refl _ _).drewN _), ?_⟩
          rw [decide_eq_false (fun h => h Hqn.out)]
          rfl
    · obtain rfl : k = n := by omega
      have hx : ¬ ((k : Nat) : Int) < (k : Int) := by omega
      clear hsc
      cases han : anyP f (qdir q) k
      · go_wp2_with fail
        ((try simp only [Exit.inBlock, Exit.then]); refine bodyPost_ret (results_tmp4 rfl _ _ _) rfl ?_)
        refine .inr ⟨Hsc.out, ?_⟩
        rw [han]; rfl
      · go_wp2_with fail
        ((try simp only [Exit.inBlock, Exit.then]); refine bodyPost_ret (results_tmp4 rfl _ _ _) rfl ?_)
        refine .inr ⟨Hsc.out, ?_⟩
        rw [han]; rfl
end Go.Proofs.YtambbfgmbfamkaaGreatDoor
