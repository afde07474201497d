/-
  Proved: printNonNegativeFloat where FormatFloat is asked: the pieces put together. No statement of the seat stands here.
-/
import Derived.Test.YtmlgfhdjdmfdbaaDoorNh
import Derived.Test.YtmlgfhdjdmfdbaaDoorNj
import Derived.Test.YtmlgfhdjdmfdbaaDoorNk
import Derived.Test.YtmlgfhdjdmfdbaaDoorNm
import Derived.Test.YtmlgfhdjdmfdbaaDoorNn
import Derived.Test.YtmlgfhdjdmfdbaaDoorNo
import Derived.Deep.CutRange
import Derived.Deep.DeepCutAuto
namespace Go.Proofs.YtmlgfhdjdmfdbaaDoor
open Go.RowKit Go.ChangeAt
set_option linter.unusedSimpArgs false
set_option linter.unusedVariables false
set_option maxRecDepth 1000000
theorem nb_rep (q j : Nat) (l : List UInt8) (h : j < q) : nb (List.replicate q 48 ++ l) j = 48 := by
  rw [nb_app1 _ _ _ (by rw [List.length_replicate]; exact h)]
  unfold nb
  rw [List.getD_eq_getElem?_getD, List.getElem?_replicate, if_pos h]
  rfl
theorem noB_app {c : Nat} {a b : List UInt8} (h1 : NoB c a) (h2 : NoB c b) : NoB c (a ++ b) := fun x hx => by
  rcases List.mem_append.1 hx with h | h
  · exact h1 x h
  · exact h2 x h
theorem tail8 (b f : Nat) (mn : Bool) (l : List UInt8) (hl : l.length ≤ 1000) (w : World) (hPl : b < w.heap.size) (h4 : ∀ w', Chg (fun k => k = b) w w' → Tab4 w') (a : Act) (wx : World) (hk : Keeps b f mn w l a wx) :
    Code.wp Tryd.prog R99 (bodyPost Tryd.prog Tryd.f8 (TailOut b mn l.length w)) a wx := by
  obtain ⟨v, h5, g, off, cap, rfl, hr, hp, hc⟩ := hk.f5
  obtain ⟨x, rfl⟩ := lit5 a hk.d hk.sz hk.f0 hk.f1 h5
  cases mn
  · exact tail_plain b f l hl w hPl g off cap wx (Lib.hid hr) (Lib.hid hp) (Lib.hid hc) x
  · exact tail_min b f l hl w hPl g off cap wx (Lib.hid hr) (Lib.hid hp) (Lib.hid hc) x h4
theorem form99 (b f : Nat) (mn : Bool) (r : List UInt8) (hrl : r.length ≤ 1000) (w : World) (hPl : b < w.heap.size) (g5 off5 cap5 : Nat) (wc : World) (HR5 : Hid (Row w.heap.size g5 off5 cap5 r wc)) (HP5 : Hid (Pn b mn wc)) (HC5 : Hid (Chg (fun k => k = b) w wc))
    (K0 : Act → World → Prop) (Post : Ending → World → Prop) (N2 : Nat) (HF : Hid (Form r mn N2)) (a : Act) (hd : a.defers = []) (hs : a.tmps.size = 311) (h0 : a.tmps[0]? = some (.pointer (some ⟨b, 0, none⟩))) (h1 : a.tmps[1]? = some (.float .f64 f))
    (h5 : a.tmps[5]? = some (.slice (some ⟨g5, off5, none⟩) r.length cap5)) (h9 : a.tmps[9]? = some (.int .i64 (Lib.indexByte r 46))) (h99 : a.tmps[99]? = some (.bool (isA (Lib.indexByte r 46) r))) (hok : ∀ a' w' l, l.length = N2 → Keeps b f mn w l a' w' → K0 a' w') :
    Code.wp Tryd.prog C99 (Exit.then K0 (bodyPost Tryd.prog Tryd.f8 Post)) a wc := by
  rcases HF.out with ⟨q, ds, hr, hds, hN, hq4⟩ | ⟨d, rest, es, neg, hr, hd48, hd46, hno, hrl2, hes, hN⟩ | ⟨hno, hr1, hz, hN⟩ | ⟨a1, c1, hr, hno, hno1, hnz, ha, hN⟩
  · have hD : Lib.indexByte r 46 = 1 := by rw [hr]; exact index_app [48] 46 _ (by intro x hx; simp at hx; subst hx; decide)
    have hA : isA (Lib.indexByte r 46) r = true := by
      rw [hD, hr]; unfold isA
      rw [decide_eq_true (show (1 : Int) = 1 from rfl), decide_eq_true (show nb (48 :: 46 :: (List.replicate q 48 ++ ds)) 0 = 48 from rfl)]; rfl
    rw [hA] at h99
    rw [hD] at h9
    obtain ⟨x, rfl⟩ := lit99 a hd hs h0 h1 h5 h9 h99
    have hl : r.length = q + ds.length + 2 := by rw [hr]; simp
    have hz : ∀ j, 2 ≤ j → j < 2 + q → nb r j = 48 := fun j hj1 hj2 => by
      obtain ⟨i, rfl⟩ : ∃ i, j = i + 1 + 1 := ⟨j - 2, by omega⟩
      rw [hr, nb_cons, nb_cons]
      exact nb_rep q i ds (by omega)
    have hdd : nb r (2 + q) ≠ 48 := by
      obtain ⟨d0, r0, he, hne⟩ := hds.head
      rw [hr, show 2 + q = q + 1 + 1 by omega, nb_cons, nb_cons]
      have := nb_app2 (List.replicate q 48) ds 0
      rw [List.length_replicate, Nat.add_zero] at this
      rw [this, he]
      exact hne
    have hdr : (r.drop (2 + q)).take ds.length = ds := by
      rw [hr, show 2 + q = q + 1 + 1 by omega, List.drop_succ_cons, List.drop_succ_cons, List.drop_append, List.length_replicate]
      rw [List.drop_eq_nil_of_le (by rw [List.length_replicate]; exact Nat.le_refl _), Nat.sub_self, List.nil_append, List.drop_zero, List.take_length]
    cases mn
    · exact c99_zero_false b f r hrl w hPl g5 off5 cap5 wc HR5 HP5 HC5 x K0 Post N2 hok q ds.length r.length rfl hl ds rfl hds.len.1 hz hdd hdr hN
    · exact c99_zero_true b f r hrl w hPl g5 off5 cap5 wc HR5 HP5 HC5 x K0 Post N2 hok q ds.length r.length rfl hl ds rfl hds.len.1 hz hdd hdr hN
  · have hr' : r = d :: 46 :: (rest ++ 101 :: ((if neg then [45] else []) ++ es)) := by rw [hr]; unfold mkR; simp
    have hD : Lib.indexByte r 46 = 1 := by rw [hr']; exact index_app [d] 46 _ (by intro x hx; simp at hx; subst hx; intro e; exact hd46 (by rw [e]; rfl))
    have hA : isA (Lib.indexByte r 46) r = false := by rw [hD, hr']; unfold isA; rw [decide_eq_false (show ¬ nb (d :: 46 :: (rest ++ 101 :: ((if neg then [45] else []) ++ es))) 0 = 48 from hd48), Bool.and_false]
    rw [hA] at h99
    rw [hD] at h9
    obtain ⟨x, rfl⟩ := lit99 a hd hs h0 h1 h5 h9 h99
    have hl : r.length = rest.length + 2 + 1 + ((if neg then [45] else []) ++ es).length := by rw [hr']; simp only [List.length_cons, List.length_append]; omega
    have hlast : LastIs r 101 ((rest.length + 2 : Nat) : Int) := by
      have e : r = (d :: 46 :: rest) ++ 101 :: ((if neg then [45] else []) ++ es) := hr
      rw [e]
      exact last_some (a := d :: 46 :: rest) (c := 101) (noB_app (by cases neg <;> intro x hx <;> simp at hx; subst hx; decide) (es_noE hes))
    have hdr : (r.drop (rest.length + 2 + 1)).take (r.length - (rest.length + 2 + 1)) = (if neg then [45] else []) ++ es := by
      rw [List.take_of_length_le (by rw [List.length_drop]; exact Nat.le_refl _), hr', List.drop_succ_cons, List.drop_succ_cons, List.drop_append]
      rw [List.drop_eq_nil_of_le (by omega), show rest.length + 1 - rest.length = 1 by omega]
      rfl
    exact c99_pexp b f mn r hrl w hPl g5 off5 cap5 wc HR5 HP5 HC5 x K0 Post N2 hok rest.length (rest.length + 2) r.length rfl es neg hes rfl hrl2 hl hlast hdr _ rfl hN
  · have hD : Lib.indexByte r 46 = -1 := index_none r 46 (noB_ne hno rfl)
    have hA : isA (Lib.indexByte r 46) r = false := by rw [hD]; rfl
    rw [hA] at h99
    rw [hD] at h9
    obtain ⟨n, hn⟩ : ∃ n, r.length = n + 1 := ⟨r.length - 1, by omega⟩
    rw [hn] at h5
    obtain ⟨x, rfl⟩ := lit99 a hd hs h0 h1 h5 h9 h99
    exact c99_none b f mn r hrl w hPl g5 off5 cap5 wc HR5 HP5 HC5 x K0 Post N2 hok n hn hz hN
  · have hD : Lib.indexByte r 46 = (a1.length : Int) := by rw [hr]; exact index_app a1 46 c1 (noB_ne hno rfl)
    have hA : isA (Lib.indexByte r 46) r = false := by unfold isA; rw [decide_eq_false hnz, Bool.and_false]
    rw [hA] at h99
    obtain ⟨x, rfl⟩ := lit99 a hd hs h0 h1 h5 h9 h99
    exact c99_point b f mn r hrl w hPl g5 off5 cap5 wc HR5 HP5 HC5 x K0 Post N2 hok (Lib.indexByte r 46) (by rw [hD]; omega) hno1 hN.symm
set_option maxHeartbeats 16000000 in
theorem mid8 (b f : Nat) (mn : Bool) (r : List UInt8) (hrl : r.length ≤ 1000) (w : World) (hPl : b < w.heap.size) (h4 : ∀ w', Chg (fun k => k = b) w w' → Tab4 w') (N2 : Nat) (hN2 : N2 ≤ 1000) (HF : Hid (Form r mn N2)) (a : Act) (wx : World) (hk : Keeps b f mn w r a wx) :
    Code.wp Tryd.prog R52 (bodyPost Tryd.prog Tryd.f8 (TailOut b mn N2 w)) a wx := by
  obtain ⟨v, h5, g5, off5, cap5, rfl, hrow, hpn, hch⟩ := hk.f5
  obtain ⟨x, rfl⟩ := lit5 a hk.d hk.sz hk.f0 hk.f1 h5
  have hr1 := form_pos HF.out
  have hgl5 := hrow.lt
  have hcl5 := hrow.len
  have hcm5 := hrow.capb
  have HR5 := Lib.hid hrow
  have HP5 := Lib.hid hpn
  have HC5 := Lib.hid hch
  have H4 := Lib.hid h4
  have hidx := idx13 _ g5 off5 cap5 r wx hrow 46
  have hDf : ((46 : Int).toNat.toUInt8) = 46 := by decide
  rw [hDf] at hidx
  generalize hD : Lib.indexByte r 46 = D at hidx
  have HD := Lib.hid hD
  clear hrow hpn hch hD hk h5 h4
  conv => arg 2; whnf
  go_wp2_with fail
  refine hidx.mono ?_
  rintro ex w5 ⟨rfl, rfl⟩
  clear hidx
  go_upto_region 20 with fail
  go_cut [99] (fun c99 wx => c99 = .bool (isA D r) ∧ wx = w5)
  case first =>
    have c0 := HR5.out.nb 0 (by omega)
    rw [Nat.add_zero] at c0
    have q0 : (0 : Int) < (r.length : Int) := by omega
    obtain ⟨y, hy⟩ : ∃ y, nb r 0 = y := ⟨_, rfl⟩
    have hA : ∀ p q : Bool, ((D : Int) == 1) = p → (((y : Nat) : Int) == 48) = q → isA D r = (p && q) := by
      rintro p q rfl rfl
      unfold isA
      rw [hy]
      have e1 : decide (D = 1) = (D == 1) := by by_cases h : D = 1 <;> simp [h]
      have e2 : decide (y = 48) = (((y : Nat) : Int) == 48) := by
        by_cases h : y = 48
        · rw [h]; rfl
        · rw [decide_eq_false h]; exact (beq_eq_false_iff_ne.2 (by omega)).symm
      rw [e1, e2]
    rw [hy] at c0
    cases hp : ((D : Int) == 1)
    · have HA := Lib.hid (hA false _ hp rfl)
      clear hA hy
      go_wp2_with fail
      go_meet
      case rel => exact ⟨by rw [HA.out]; rfl, rfl⟩
    · have HA := fun q hq => Lib.hid (hA true q hp hq)
      cases hq : (((y : Nat) : Int) == 48)
      · have HA' := HA false hq
        have hD1 : D = 1 := beq_iff_eq.1 hp
        subst hD1
        clear hA hy HA hp
        go_wp2_with fail
        go_meet
        case rel => exact ⟨by rw [HA'.out]; rfl, rfl⟩
      · have HA' := HA true hq
        have hD1 : D = 1 := beq_iff_eq.1 hp
        subst hD1
        clear hA hy HA hp
        go_wp2_with fail
        go_meet
        case rel => exact ⟨by rw [HA'.out]; rfl, rfl⟩
  case rest =>
    obtain ⟨rfl, rfl⟩ := hcut
    go_upto_if 99 with fail
    have hDD := HD.out
    subst hDD
    refine form99 b f mn r hrl w hPl g5 off5 cap5 _ HR5 HP5 HC5 _ _ N2 HF _ rfl rfl rfl rfl rfl rfl rfl (fun a' w' l hl hk => ?_)
    apply_assumption
    subst hl
    exact tail8 b f mn l hN2 w hPl H4.out a' w' hk
end Go.Proofs.YtmlgfhdjdmfdbaaDoor
