/-
  Proved: contract of the resolver of an object at pattern keys. No statement of the seat stands here.
-/
import Derived.Test.YtcbmankbjgbjgaaGreatFmtIexx
import Derived.Test.YtcbmankbjgbjgaaGreatFmtIexy
import Derived.Test.YtcbmankbjgbjgaaGreatFmtLaw4
namespace Go.Proofs.YtcbmankbjgbjgaaGreatFmt
open Go.RowKit Go.ChangeAt
open Go.Extern.Stop Go.Stop Go.Extern
set_option linter.unusedSimpArgs false
set_option linter.unusedVariables false
set_option maxRecDepth 100000
theorem Reads.congr {w : World} {a : Option Addr} {n : Nat} {f g : Nat → Value} (h : Reads w a n f) (e : ∀ i, i < n → f i = g i) : Reads w a n g := by
  rcases h with h | ⟨b, o, h1, h2⟩
  · exact .inl h
  · exact .inr ⟨b, o, h1, fun i hi => by rw [← e i hi]; exact h2 i hi⟩
theorem Win.congr {n : Nat} {b c : Nat → ByteArray} {q : ByteArray} {i : Nat} (h : Win n b q i) (e : ∀ i, i < n → b i = c i) : Win n c q i := by
  obtain ⟨h1, h2, h3⟩ := h
  refine ⟨h1, by rw [← e i h1]; exact h2, fun y hy hp hne => ?_⟩
  rw [← e i h1, ← e y hy]
  exact h3 y hy (by rw [e y hy]; exact hp) hne
theorem PatHit.congr {n : Nat} {b c d : Nat → ByteArray} {q r : ByteArray} {st : Int} (h : PatHit n b d q r st) (e : ∀ i, i < n → b i = c i) : PatHit n c d q r st := by
  rcases h with ⟨i, h1, h2, h3⟩ | ⟨h1, h2⟩
  · exact .inl ⟨i, h1.congr e, by rw [← e i h1.1]; exact h2, h3⟩
  · exact .inr ⟨fun i hi => by rw [← e i hi]; exact h1 i hi, h2⟩
def ZimOut (n : Nat) (b d : Nat → ByteArray) (q : ByteArray) (w : World) (e : Ending) (w' : World) : Prop :=
  (∃ r st, PatHit n b d q r st ∧ e = .returned (.tuple #[.string r, .int .u8 st])) ∧ Chg Nowhere w w'
set_option maxHeartbeats 8000000 in
theorem zim17x (F : Interp) (a a2 a3 : Option Addr) (n c c2 c3 : Nat) (b d f tt : Nat → ByteArray) (q m : ByteArray) (bi : Bool) (w : World) (hA : F.answers w.tape) (hm : m = dotted q) (hb : ∀ i, i < n → ∀ j, j < (b i).size → bt (b i) j ≠ 42) (hbz : ∀ i, i < n → (b i).size ≤ 1048576) (hd : ∀ i, i < n → Dir (d i)) (hf : ∀ i, i < n → f i = keyP (b i)) (htt : ∀ i, i < n → tt i = patS (d i)) (hR : Reads w a n (strAt f)) (hT : Reads w a2 n (strAt tt)) (hD : Reads w a3 n yesAt) (hn : n ≤ 1048576) (hq : NoSep q) (hqs : q.size ≤ 1048576) :
    Calls Tryz.prog 17 #[.string m, .slice a n c, .slice a2 n c2, .slice a3 n c3, .string ⟨#[47, 112, 107, 103]⟩, .bool bi] w (ZimOut n b d q w) := by
  by_cases h0 : n = 0
  · subst h0
    have h23 := obj23 a a2 a3 0 c c2 c3 f tt w (.inl rfl) (.inl rfl) (.inl rfl) hn
    have hmz : m.size ≤ 16777216 := by rw [hm, dotted_size]; omega
    have HA := Lib.hid hA
    clear hA hm hb hbz hd hf htt hR hT hD
    go_enter Tryz.func17, Tryz.ntmps17
    go_wp2_with fail
    refine h23.mono ?_
    rintro e1 w1 ⟨ma, mc, ea, ec, rfl, hI, hc1⟩
    have Hc1 := Lib.hid hc1
    have HI := Lib.hid hI
    clear hc1 hI h23
    unfold oent
    go_wp2_with fail
    refine (iex25y F ma 0 mc ea ec f f tt bi m (.map none) w1 (by rw [Hc1.out.tape]; exact HA.out) HI.out (fun i hi => by omega) (fun i hi => by omega) (fun i hi => by omega) hn hmz).mono ?_
    rintro e2 w2 ⟨hv, hc2⟩
    have Hc2 := Lib.hid (Hc1.out.trans hc2 (fun _ _ h => h))
    clear hc2
    have hv2 : ∃ t, e2 = .returned (.tuple #[.string ⟨#[]⟩, .int .u8 2, .agg (dbg t)]) := by
      rcases hv with ⟨i, hi, _⟩ | ⟨h1, t, h2⟩
      · omega
      · exact ⟨t, h2⟩
    obtain ⟨t2, rfl⟩ := hv2
    clear hv
    unfold dbg
    go_wp2_with fail
    refine bodyPost_ret (v := .tuple #[.string ⟨#[]⟩, .int .u8 2]) ?_ rfl ⟨⟨⟨#[]⟩, 2, .inr ⟨fun i hi => by omega, rfl, rfl⟩, rfl⟩, Hc2.out.alloc _⟩
    exact (results_tmp2' (by rfl) _ _ _).trans (by rfl)
  · have hn1 : 1 ≤ n := by omega
    clear h0
    obtain ⟨b', hb'⟩ : ∃ b' : Nat → ByteArray, b' = fun i => if i < n then b i else ⟨#[]⟩ := ⟨_, rfl⟩
    have e1 : ∀ i, i < n → b' i = b i := fun i hi => by rw [hb']; simp only [if_pos hi]
    have nb : ∀ i, ∀ j, j < (b' i).size → bt (b' i) j ≠ 42 := fun i j hj => by
      by_cases hi : i < n
      · rw [e1 i hi] at hj ⊢; exact hb i hi j hj
      · rw [hb'] at hj
        simp only [if_neg hi] at hj
        exact absurd hj (Nat.not_lt_zero _)
    have hR' : Reads w a n (strAt fun i => keyP (b' i)) := hR.congr fun i hi => by show Value.string (f i) = Value.string (keyP (b' i)); rw [hf i hi, e1 i hi]
    have hT' : Reads w a2 n (strAt fun i => patS (d i)) := hT.congr fun i hi => by show Value.string (tt i) = Value.string (patS (d i)); rw [htt i hi]
    have h23 := obj23x a a2 a3 n c c2 c3 (fun i => keyP (b' i)) (fun i => patS (d i)) (fun i => (b' i).size + 2) w (star_keys (fun _ => rfl) nb (fun _ => rfl)) hR' hT' hD hn hn1
    have h25 : ∀ ma mc g ec s w1, Items w1 ma n (fun i => keyP (b' i)) (fun i => patS (d i)) → Tbl w1 g n (fun i => keyP (b' i)) (fun i => patS (d i)) s → Stab.Blk (KL fun i => (b' i).size + 2) s 0 n → Calls Tryz.prog 25 #[.agg rq, .string m, .agg (oentx ma n mc (some ⟨g, 0, none⟩) n ec), .string ⟨#[47, 112, 107, 103]⟩, .bool bi, .map none] w1 (PatOut n b' d q w1) := fun ma mc g ec s w1 hI hTb hB => iex25x ma n mc g ec (fun i => keyP (b' i)) (fun i => patS (d i)) b' d (fun i => (b' i).size + 2) s bi q m (.map none) w1 hm hI hTb hB (fun _ => rfl) (fun _ => rfl) nb (fun i hi => by rw [e1 i hi]; exact hbz i hi) hd (fun _ => rfl) hn hq (by omega)
    have H23 := Lib.hid h23
    have H25 := Lib.hid h25
    have E1 := Lib.hid e1
    clear hA hm hb hbz hd hf htt hR hT hD hq h23 h25 e1 nb hb' hR' hT'
    go_enter Tryz.func17, Tryz.ntmps17
    go_wp2_with fail
    refine H23.out.mono ?_
    rintro e1 w1 ⟨ma, mc, g, ec, s, rfl, hI, hTb, hB, hc1⟩
    have Hc1 := Lib.hid hc1
    have H := Lib.hid (H25.out ma mc g ec s w1 hI hTb hB)
    clear hc1 hI hTb hB H23 H25
    unfold oentx
    go_wp2_with fail
    refine H.out.mono ?_
    rintro e2 w2 ⟨⟨r, st, t, hh, rfl⟩, hc2⟩
    have Hc2 := Lib.hid (Hc1.out.trans hc2 (fun _ _ h => h))
    have HH := Lib.hid (hh.congr E1.out)
    clear hc2 hh H
    unfold dbg
    go_wp2_with fail
    refine bodyPost_ret (v := .tuple #[.string r, .int .u8 st]) ?_ rfl ⟨⟨r, st, HH.out, rfl⟩, Hc2.out.alloc _⟩
    exact (results_tmp2' (by rfl) _ _ _).trans (by rfl)
end Go.Proofs.YtcbmankbjgbjgaaGreatFmt
