/-
  Proved: the walk of printNonNegativeFloat where FormatFloat is asked: it prints as many bytes as the plain functions say. No statement of the seat stands here.
-/
import Derived.Test.YtmlgfhdjdmfdbaaDoorNp
import Derived.Deep.CutRange
import Derived.Deep.DeepCutAuto
namespace Go.Proofs.YtmlgfhdjdmfdbaaDoor
open Go.RowKit Go.ChangeAt
set_option linter.unusedSimpArgs false
set_option linter.unusedVariables false
set_option maxRecDepth 100000
theorem Row.pre {B g off cap : Nat} {l : List UInt8} {w : World} (h : Row B g off cap l w) (n : Nat) (hn : n ≤ l.length) : Row B g off cap (l.take n) w := by
  have := h.sub 0 n (by omega)
  simpa using this
theorem Row.tail {B g off cap : Nat} {l : List UInt8} {w : World} (h : Row B g off cap l w) (n : Nat) : ∀ j u, (Lib.byteCells (l.drop n))[j]? = some u → w.cell? ((⟨g, off + n, none⟩ : Addr).add j) = some u := by
  intro j u hj
  rw [add_cell, show off + n + j = off + (n + j) by omega]
  refine h.reads (n + j) u ?_
  rw [← hj]
  simp only [Lib.byteCells, List.getElem?_map, List.getElem?_drop]
def NoB (c : Nat) (l : List UInt8) : Prop := ∀ x ∈ l, x.toNat ≠ c
theorem NoB.at {c : Nat} {l : List UInt8} (h : NoB c l) (j : Nat) (hj : j < l.length) : nb l j ≠ c := by
  unfold nb
  rw [List.getD_eq_getElem?_getD, List.getElem?_eq_getElem hj]
  exact h _ (List.getElem_mem hj)
theorem nb_app1 (a b : List UInt8) (j : Nat) (h : j < a.length) : nb (a ++ b) j = nb a j := by
  unfold nb; rw [List.getD_eq_getElem?_getD, List.getD_eq_getElem?_getD, List.getElem?_append_left h]
theorem nb_app2 (a b : List UInt8) (j : Nat) : nb (a ++ b) (a.length + j) = nb b j := by
  unfold nb; rw [List.getD_eq_getElem?_getD, List.getD_eq_getElem?_getD, List.getElem?_append_right (by omega)]; congr 2; congr 1; omega
theorem nb_cons (x : UInt8) (l : List UInt8) (j : Nat) : nb (x :: l) (j + 1) = nb l j := rfl
theorem last_none {l : List UInt8} {c : Nat} (h : NoB c l) : LastIs l c (-1) := .inl ⟨rfl, fun j hj => h.at j hj⟩
theorem last_some {a b : List UInt8} {c : UInt8} (h : NoB c.toNat b) : LastIs (a ++ c :: b) c.toNat (a.length : Int) := by
  refine .inr ⟨a.length, rfl, by simp, ?_, fun j h1 h2 => ?_⟩
  · have := nb_app2 a (c :: b) 0
    rw [Nat.add_zero] at this
    rw [this]; rfl
  · obtain ⟨i, rfl⟩ : ∃ i, j = a.length + (i + 1) := ⟨j - a.length - 1, by omega⟩
    rw [nb_app2, nb_cons]
    simp at h2
    exact h.at i (by omega)
/-- The text and the same with its exponent simplified. -/
inductive Simp (T r : List UInt8) : Prop
  | plain : NoB 101 T → r = T → Simp T r
  | exp (pre es : List UInt8) (neg : Bool) (z : Nat) : T = mkE pre neg z es → r = mkR pre neg es → z ≤ 1 → EsOk es → Simp T r
/-- Where a row of bytes lies now; the printer has printed nothing. -/
def Stands (b : Nat) (mn : Bool) (w : World) (l : List UInt8) (v : Value) (wx : World) : Prop := ∃ g off cap, v = .slice (some ⟨g, off, none⟩) l.length cap ∧ Row w.heap.size g off cap l wx ∧ Pn b mn wx ∧ Chg (fun k => k = b) w wx
theorem Stands.mk' {b n g off cap : Nat} {mn : Bool} {w wx : World} {l : List UInt8} (hn : n = l.length) (h1 : Row w.heap.size g off cap l wx) (h2 : Pn b mn wx) (h3 : Chg (fun k => k = b) w wx) : Stands b mn w l (.slice (some ⟨g, off, none⟩) n cap) wx := by
  subst hn
  exact ⟨g, off, cap, rfl, h1, h2, h3⟩
/-- An append to the call's own row keeps the printer. -/
theorem Stands.step {b g g' off' cap' n : Nat} {mn : Bool} {w w3 w' : World} {l : List UInt8} (hPl : b < w.heap.size) (hg : w.heap.size ≤ g) (hP : Pn b mn w3) (hc : Chg (fun k => k = b) w w3) (hn : n = l.length) (h1 : Row w.heap.size g' off' cap' l w') (h2 : Chg (fun k => k = g) w3 w') : Stands b mn w l (.slice (some ⟨g', off', none⟩) n cap') w' :=
  Stands.mk' hn h1 (hP.kept h2 (by omega)) (hc.trans h2 (fun k hk hs => by omega))
theorem es_noE {es : List UInt8} (h : EsOk es) : NoB 101 es := fun x hx => by have := h.dig x hx; omega
theorem mkE_last (pre es : List UInt8) (neg : Bool) (z : Nat) (h : EsOk es) : LastIs (mkE pre neg z es) 101 (pre.length : Int) := by
  unfold mkE
  refine last_some (c := 101) ?_
  intro x hx
  rcases List.mem_cons.1 hx with rfl | hx
  · cases neg <;> decide
  · rcases List.mem_append.1 hx with hx | hx
    · rw [List.eq_of_mem_replicate hx]; decide
    · exact es_noE h x hx
theorem nb_zero (z : Nat) (es : List UInt8) (h : EsOk es) (hz : z ≤ 1) : (z = 0 → nb (List.replicate z 48 ++ es) 0 ≠ 48) ∧ (z = 1 → nb (List.replicate z 48 ++ es) 0 = 48 ∧ nb (List.replicate z 48 ++ es) 1 ≠ 48) := by
  obtain ⟨d, r, rfl, hd⟩ := h.head
  constructor
  · rintro rfl; exact hd
  · rintro rfl; exact ⟨rfl, hd⟩
/-- What the text's bytes are, by place. -/
structure ExpAt (T : List UInt8) (k z : Nat) (neg : Bool) : Prop where
  len : k + 2 + z + 1 ≤ T.length
  sg : nb T (k + 1) = if neg then 45 else 43
  z0 : z = 0 → nb T (k + 2) ≠ 48
  z1 : z = 1 → nb T (k + 2) = 48 ∧ nb T (k + 3) ≠ 48
theorem mkE_at (pre es : List UInt8) (neg : Bool) (z : Nat) (h : EsOk es) (hz : z ≤ 1) : ExpAt (mkE pre neg z es) pre.length z neg := by
  have hl := h.len
  have hn := nb_zero z es h hz
  unfold mkE
  refine ⟨by simp; omega, ?_, fun h0 => ?_, fun h1 => ?_⟩
  · rw [nb_app2, nb_cons]; cases neg <;> rfl
  · rw [nb_app2, nb_cons, nb_cons]; exact hn.1 h0
  · rw [nb_app2, nb_cons, nb_cons, nb_app2, nb_cons, nb_cons]; exact hn.2 h1
theorem mkE_cut (pre es : List UInt8) (neg : Bool) (z : Nat) : (mkE pre neg z es).take (pre.length + (if neg then 2 else 1)) ++ (mkE pre neg z es).drop (pre.length + 2 + z) = mkR pre neg es := by
  unfold mkE mkR
  rw [List.take_append, List.drop_append]
  have e1 : pre.take (pre.length + (if neg then 2 else 1)) = pre := List.take_of_length_le (by split <;> omega)
  have e2 : pre.drop (pre.length + 2 + z) = [] := List.drop_eq_nil_of_le (by omega)
  have e3 : pre.length + (if neg = true then 2 else 1) - pre.length = if neg then 2 else 1 := by omega
  have e4 : pre.length + 2 + z - pre.length = 2 + z := by omega
  rw [e1, e2, e3, e4]
  cases neg
  · simp [Nat.add_comm 2 z, List.drop_append]
  · simp [Nat.add_comm 2 z, List.drop_append]
theorem LastIs.uniq {l : List UInt8} {c : Nat} {r s : Int} (h1 : LastIs l c r) (h2 : LastIs l c s) : r = s := by
  rcases h1 with ⟨a, b⟩ | ⟨k, a, b, d, e⟩ <;> rcases h2 with ⟨a', b'⟩ | ⟨k', a', b', d', e'⟩
  · omega
  · exact absurd d' (b k' b')
  · exact absurd d (b' k b)
  · by_cases h : k < k'
    · exact absurd d' (e k' h b')
    · by_cases h2 : k' < k
      · exact absurd d (e' k h2 b)
      · have hkk : k = k' := by omega
        subst hkk
        rw [a, a']
/-- The four forms of a simplified text, and the length that the printer comes to. -/
inductive Form (r : List UInt8) (mn : Bool) (N2 : Nat) : Prop
  | zero (q : Nat) (ds : List UInt8) : r = 48 :: 46 :: (List.replicate q 48 ++ ds) → DsOk ds → N2 = lenA q ds.length mn → q ≤ 4 → Form r mn N2
  | pexp (d : UInt8) (rest es : List UInt8) (neg : Bool) : r = mkR (d :: 46 :: rest) neg es → d.toNat ≠ 48 → d.toNat ≠ 46 → NoB 46 rest → rest.length ≤ 20 → EsOk es → N2 = lenB rest.length (if neg then -((pv es : Nat) : Int) else ((pv es : Nat) : Int)) r.length → Form r mn N2
  | none : NoB 46 r → 1 ≤ r.length → nb r 0 ≠ 48 → N2 = lenC r → Form r mn N2
  | point (a c : List UInt8) : r = a ++ 46 :: c → NoB 46 a → NoB 101 r → nb r 0 ≠ 48 → 1 ≤ a.length → N2 = r.length → Form r mn N2
def isA (D : Int) (r : List UInt8) : Bool := decide (D = 1) && decide (nb r 0 = 48)
theorem noB_ne {c : Nat} {d : UInt8} {l : List UInt8} (h : NoB c l) (hd : d.toNat = c) : ∀ x ∈ l, x ≠ d := fun x hx e => h x hx (by rw [e]; exact hd)
theorem form_pos {r : List UInt8} {mn : Bool} {N2 : Nat} (h : Form r mn N2) : 1 ≤ r.length := by
  rcases h with ⟨q, ds, rfl, _⟩ | ⟨d, rest, es, neg, rfl, _⟩ | ⟨_, h, _, _⟩ | ⟨a, c, rfl, _⟩
  · simp
  · unfold mkR; simp
  · exact h
  · simp; omega
end Go.Proofs.YtmlgfhdjdmfdbaaDoor
