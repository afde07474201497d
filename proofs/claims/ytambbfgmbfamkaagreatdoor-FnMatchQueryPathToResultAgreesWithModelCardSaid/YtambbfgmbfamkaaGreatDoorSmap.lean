/-
  Proved: maps from strings to bools that hold true alone, as sets: what a store, a look-up, len say of them. No statement of the seat stands here.
-/
import Derived.Test.YtambbfgmbfamkaaGreatDoorBase
import Derived.Maps.Own
import Derived.Maps.OwnOps
import Derived.StringKeys
namespace Go.Proofs.YtambbfgmbfamkaaGreatDoor
open Go.RowKit Go.Maps Go.WideMaps
set_option linter.unusedSimpArgs false
set_option linter.unusedVariables false
/-- The entries E are the set K. -/
structure EInv (E : List (Lit × DataW Unit)) (K : List (List UInt8)) : Prop where
  vals : ∀ p ∈ E, ∃ x, p = (.string x, .lit (.bool true))
  nodup : (E.map (·.1)).Nodup
  mem : ∀ x, Lit.string x ∈ E.map (·.1) ↔ x ∈ K
theorem EInv.nil : EInv [] [] := ⟨fun _ h => (by cases h), List.nodup_nil, fun x => (by simp)⟩
theorem EInv.congr {E : List (Lit × DataW Unit)} {K K' : List (List UInt8)} (h : EInv E K) (e : ∀ x, x ∈ K ↔ x ∈ K') : EInv E K' :=
  ⟨h.vals, h.nodup, fun x => (h.mem x).trans (e x)⟩
theorem insert_perm (x : Lit × DataW Unit) : ∀ l : List (Lit × DataW Unit), (DataW.insert x l).Perm (x :: l)
  | [] => List.Perm.refl _
  | y :: r => by
    unfold DataW.insert
    split
    · exact List.Perm.refl _
    · exact ((insert_perm x r).cons y).trans (List.Perm.swap x y r)
theorem EInv.put {E : List (Lit × DataW Unit)} {K : List (List UInt8)} (h : EInv E K) (k : List UInt8) : ∃ E', (DataW.map E).put (.string k) (.lit (.bool true)) = .map E' ∧ EInv E' (k :: K) := by
  refine ⟨_, rfl, ?_⟩
  have hp := insert_perm (Lit.string k, DataW.lit (.bool true)) (E.filter fun p => !p.1.sameKey (.string k))
  have hm : ∀ p, p ∈ DataW.insert (Lit.string k, DataW.lit (.bool true)) (E.filter fun p => !p.1.sameKey (.string k)) ↔ p = (Lit.string k, DataW.lit (.bool true)) ∨ (p ∈ E ∧ p.1 ≠ .string k) := fun p => by
    rw [hp.mem_iff, List.mem_cons, List.mem_filter]
    constructor
    · rintro (e | ⟨h1, h2⟩)
      · exact .inl e
      · refine .inr ⟨h1, fun e => ?_⟩
        rw [e] at h2
        simp [Lit.sameKey] at h2
    · rintro (e | ⟨h1, h2⟩)
      · exact .inl e
      · refine .inr ⟨h1, ?_⟩
        obtain ⟨x, rfl⟩ := h.vals p h1
        simp only [Lit.sameKey, Bool.not_eq_true', beq_eq_false_iff_ne, ne_eq]
        exact fun e => h2 (by rw [e])
  refine ⟨fun p hp2 => ?_, ?_, fun x => ?_⟩
  · rcases (hm p).1 hp2 with rfl | ⟨h1, _⟩
    · exact ⟨k, rfl⟩
    · exact h.vals p h1
  · rw [(hp.map _).nodup_iff, List.map_cons, List.nodup_cons]
    refine ⟨fun hk => ?_, (List.filter_sublist.map _).nodup h.nodup⟩
    obtain ⟨p, hp3, hp4⟩ := List.mem_map.1 hk
    have h5 := (List.mem_filter.1 hp3).2
    rw [hp4] at h5
    simp [Lit.sameKey] at h5
  · rw [List.mem_map]
    constructor
    · rintro ⟨p, hp2, e⟩
      rcases (hm p).1 hp2 with rfl | ⟨h1, _⟩
      · injection e with e
        subst e
        exact List.mem_cons_self
      · exact List.mem_cons_of_mem _ ((h.mem x).1 (List.mem_map.2 ⟨p, h1, e⟩))
    · intro hx
      by_cases e : x = k
      · subst e
        exact ⟨_, (hm _).2 (.inl rfl), rfl⟩
      · obtain ⟨p, h1, h2⟩ := List.mem_map.1 ((h.mem x).2 ((List.mem_cons.1 hx).resolve_left e))
        exact ⟨p, (hm p).2 (.inr ⟨h1, by rw [h2]; intro e2; injection e2 with e2; exact e e2⟩), h2⟩
theorem EInv.at {E : List (Lit × DataW Unit)} {K : List (List UInt8)} (h : EInv E K) (x : List UInt8) : (DataW.map E).atKey (.string x) (.lit (.bool false)) = .lit (.bool (decide (x ∈ K))) := by
  unfold DataW.atKey
  cases hf : E.find? (fun p => p.1.sameKey (.string x)) with
  | none =>
    have hn : ¬ x ∈ K := fun hx => by
      obtain ⟨p, h1, h2⟩ := List.mem_map.1 ((h.mem x).2 hx)
      have := List.find?_eq_none.1 hf p h1
      rw [h2] at this
      simp [Lit.sameKey] at this
    simp only [hf, hn, decide_false]
  | some p =>
    have h1 := List.mem_of_find?_eq_some hf
    have h2 := List.find?_some hf
    obtain ⟨y, rfl⟩ := h.vals p h1
    have e : y = x := by simpa [Lit.sameKey] using h2
    subst e
    have hy : y ∈ K := (h.mem y).1 (List.mem_map.2 ⟨_, h1, rfl⟩)
    simp only [hf, hy, decide_true]
theorem EInv.size {E : List (Lit × DataW Unit)} {K DL : List (List UInt8)} (h : EInv E K) (h1 : DL.Nodup) (h2 : ∀ x, x ∈ DL ↔ x ∈ K) : E.length = DL.length := by
  have hn : (DL.map Lit.string).Nodup := List.Pairwise.map _ (fun a b hab e => hab (by injection e)) h1
  have hp : (E.map (·.1)).Perm (DL.map Lit.string) := (List.perm_ext_iff_of_nodup h.nodup hn).2 fun l => by
    constructor
    · intro hl
      obtain ⟨p, h3, h4⟩ := List.mem_map.1 hl
      obtain ⟨x, rfl⟩ := h.vals p h3
      subst h4
      exact List.mem_map.2 ⟨x, (h2 x).2 ((h.mem x).1 (List.mem_map.2 ⟨_, h3, rfl⟩)), rfl⟩
    · intro hl
      obtain ⟨x, h3, rfl⟩ := List.mem_map.1 hl
      exact (h.mem x).2 ((h2 x).1 h3)
  have := hp.length_eq
  simpa using this
section
variable {P : Program} {ks eb t : TypeId}
/-- Block b holds the set K as a map, of at most n entries. -/
def SetAt (P : Program) (ks eb : TypeId) (w : World) (b n : Nat) (K : List (List UInt8)) : Prop := ∃ E, w.ownsMap P ks (plainElem P eb) b n (.map E) ∧ EInv E K
theorem SetAt.kept {w w' : World} {b n : Nat} {K : List (List UInt8)} {S : Nat → Prop} (h : SetAt P ks eb w b n K) (hc : Chg S w w') (hb : ¬ S b) : SetAt P ks eb w' b n K := by
  obtain ⟨E, ⟨es, clock, hb1, F, hs, hD⟩, h2⟩ := h
  exact ⟨E, ⟨es, clock, hc.heap hb1 hb, F, hs, hD⟩, h2⟩
theorem SetAt.made (w : World) : SetAt P ks eb (w.alloc (.map #[] 0)) w.heap.size 0 [] := ⟨[], World.ownsMap_made _ _ _ _, EInv.nil⟩
theorem SetAt.lt {w : World} {b n : Nat} {K : List (List UInt8)} (h : SetAt P ks eb w b n K) : b < w.heap.size := by
  obtain ⟨E, h1, _⟩ := h
  exact h1.lt
theorem SetAt.congr {w : World} {b n : Nat} {K K' : List (List UInt8)} (h : SetAt P ks eb w b n K) (e : ∀ x, x ∈ K ↔ x ∈ K') : SetAt P ks eb w b n K' := by
  obtain ⟨E, h1, h2⟩ := h
  exact ⟨E, h1, h2.congr e⟩
theorem SetAt.mono {w : World} {b n n' : Nat} {K : List (List UInt8)} (h : SetAt P ks eb w b n K) (hn : n ≤ n') : SetAt P ks eb w b n' K := by
  obtain ⟨E, h1, h2⟩ := h
  exact ⟨E, h1.mono hn, h2⟩
theorem chg_grown {w w' : World} {b : Nat} (h : w.grownBy w' (some b)) : Chg (fun k => k = b) w w' :=
  ⟨h.os, h.tape, h.output, h.size, fun k hk hn => h.block k hk (fun e => hn (by injection e with e; first | exact e.symm | done))⟩
/-- m[s] = true -/
theorem run_set_put (ht : P.underlying t = some (.map ks eb)) (hk : P.underlying ks = some .string) (he : P.underlying eb = some .bool) {w : World} {b n : Nat} {K : List (List UInt8)} (h : SetAt P ks eb w b n K) (hn : n < 9223372036854775807) (s : ByteArray) (hs : s.size ≤ maxLen) :
    ∃ w', (Instr.mapUpdate t (.map (some b)) (.string s) (.bool true)).run P w = .ok () w' ∧ SetAt P ks eb w' b (n + 1) (s.data.toList :: K) ∧ Chg (fun k => k = b) w w' := by
  obtain ⟨E, h1, h2⟩ := h
  obtain ⟨w', r1, r2, r3⟩ := h1.update (string_keyed hk) ht (by unfold maxLen; omega) (keyOf_string_mk hk hs) (plainElem_bool he true)
  obtain ⟨E', e1, e2⟩ := h2.put s.data.toList
  rw [e1] at r2
  exact ⟨w', r1, ⟨E', r2, e2⟩, chg_grown r3⟩
/-- m[s] -/
theorem run_set_get (ht : P.underlying t = some (.map ks eb)) (hk : P.underlying ks = some .string) (he : P.underlying eb = some .bool) (hz : ∀ w, (zeroValue eb).run P w = .ok (.bool false) w) {w : World} {b n : Nat} {K : List (List UInt8)} (h : SetAt P ks eb w b n K) (s : ByteArray) (hs : s.size ≤ maxLen) :
    (Instr.lookup t (.map (some b)) (.string s) false).run P w = .ok (.bool (decide (s.data.toList ∈ K))) w := by
  obtain ⟨E, h1, h2⟩ := h
  obtain ⟨v, ps, r1, r2⟩ := h1.lookup (string_keyed hk) ht (hz w) (plainElem_bool he false) (keyOf_string_mk hk hs)
  rw [h2.at] at r2
  rw [r1]
  unfold plainElem at r2
  rw [he] at r2
  cases v <;> simp at r2
  rw [r2.1]
/-- len(m) -/
theorem run_set_len (ty : TypeId) (ht : P.underlying t = some (.map ks eb)) (hm : P.underlying t = some (.map (P.mapKeyOf t) (P.mapElemOf t))) {w : World} {b n : Nat} {K DL : List (List UInt8)} (h : SetAt P ks eb w b n K) (h1 : DL.Nodup) (h2 : ∀ x, x ∈ DL ↔ x ∈ K) :
    (Builtin.len_ #[t] ty #[.map (some b)]).run P w = .ok (goInt DL.length) w := by
  obtain ⟨E, ⟨es, clock, hb, F, hs, hD⟩, hE⟩ := h
  rw [run_len_map w t ty b es clock hm hb]
  injection hD with hD
  have e := hE.size h1 h2
  rw [hD, length_sorted, List.length_map] at e
  rw [← e]
  simp
end
end Go.Proofs.YtambbfgmbfamkaaGreatDoor
