/-
  Proved: the state of matchQueryPathToResult's scan, step by step. No statement of the seat stands here.
-/
import Derived.Test.YtambbfgmbfamkaaGreatDoorPlan
import Derived.Test.YtambbfgmbfamkaaGreatDoorMock
import Derived.Test.YtambbfgmbfamkaaGreatDoorRelx
import Derived.Test.YtambbfgmbfamkaaGreatDoorRep
import Derived.StillTailTactics
import Derived.Deep.DeepCutAuto
import Derived.Deep.RegionWith
namespace Go.Proofs.YtambbfgmbfamkaaGreatDoor
open Go.RowKit Go.ChangeAt
set_option linter.unusedSimpArgs false
set_option linter.unusedVariables false
set_option maxRecDepth 100000
/-- The build's files: a row of n files from block g's head on; file i lies at '/out/' and f i, its bytes are c i. -/
def Fil (w : World) (g n : Nat) (f : Nat → ByteArray) (c : Nat → Option Addr × Nat × Nat) : Prop := ∀ i, i < n → w.cell? ⟨g, i * 3, none⟩ = some (.string (outS ++ f i)) ∧ w.cell? ⟨g, i * 3 + 1, none⟩ = some (.slice (c i).1 (c i).2.1 (c i).2.2) ∧ w.cell? ⟨g, i * 3 + 2, none⟩ = some (.string ⟨#[]⟩)
def Two (bD bF : Nat) : Nat → Prop := fun x => x = bD ∨ x = bF
/-- The state of the scan behind k files. -/
structure Scan (w wr : World) (f : Nat → ByteArray) (q : ByteArray) (bD bF kD kF : Nat) (KD KF : List (List UInt8)) (k : Nat) : Prop where
  no : ∀ j, j < k → ¬ Hit (f j) q
  d : SetAt Tryz.prog 9 4 wr bD (kD + k) (gatD f (qdir q) k ++ KD)
  e : SetAt Tryz.prog 9 4 wr bF (kF + k) (gatF f (qdir q) k ++ KF)
  chg : Chg (Two bD bF) w wr
theorem qdir_nil {q : ByteArray} (h : q.toList.isEmpty = true) : qdir q = q := by
  unfold qdir
  rw [if_pos]
  rw [ByteArray.toList_eq] at h
  refine of_list ?_
  simpa using h
theorem qdir_cons {q : ByteArray} (h : q.toList.isEmpty = false) : qdir q = q ++ ⟨#[47]⟩ := by
  unfold qdir
  rw [if_neg]
  rintro rfl
  rw [ByteArray.toList_eq] at h
  cases h
theorem qdir_size (q : ByteArray) : (qdir q).size ≤ q.size + 1 := by
  unfold qdir
  split
  · omega
  · rw [add_size]; exact Nat.le_refl _
section
variable {w wr w' : World} {f : Nat → ByteArray} {q : ByteArray} {bD bF kD kF : Nat} {KD KF : List (List UInt8)} {k : Nat}
theorem Scan.keep (h : Scan w wr f q bD bF kD kF KD KF k) (hc : Chg Nowhere wr w') : Scan w w' f q bD bF kD kF KD KF k :=
  ⟨h.no, h.d.kept hc (fun h => h), h.e.kept hc (fun h => h), h.chg.trans hc (fun _ _ h => h.elim)⟩
theorem Scan.no1 (h : Scan w wr f q bD bF kD kF KD KF k) (hno : ¬ Hit (f k) q) : ∀ j, j < k + 1 → ¬ Hit (f j) q := fun j hj => by
  by_cases e : j = k
  · subst e; exact hno
  · exact h.no j (by omega)
theorem Scan.none (h : Scan w wr f q bD bF kD kF KD KF k) (hno : ¬ Hit (f k) q) (hp : pre (f k) (qdir q) = false) : Scan w wr f q bD bF kD kF KD KF (k + 1) := by
  have e1 : addD (f k) (qdir q) = [] := by unfold addD; rw [if_neg]; rw [hp]; simp
  have e2 : addF (f k) (qdir q) = [] := by unfold addF; rw [if_neg]; rw [hp]; simp
  refine ⟨h.no1 hno, (h.d.mono (by omega)).congr fun x => ?_, (h.e.mono (by omega)).congr fun x => ?_, h.chg⟩
  · show _ ↔ x ∈ (addD (f k) (qdir q) ++ _) ++ KD
    rw [e1]; rfl
  · show _ ↔ x ∈ (addF (f k) (qdir q) ++ _) ++ KF
    rw [e2]; rfl
theorem Scan.file (h : Scan w wr f q bD bF kD kF KD KF k) (hno : ¬ Hit (f k) q) (hp : pre (f k) (qdir q) = true) (hi : Lib.indexByte (ent (f k) (qdir q)).data.toList 47 = -1) (hne : bD ≠ bF)
    (hs : SetAt Tryz.prog 9 4 w' bF (kF + k + 1) ((ent (f k) (qdir q)).data.toList :: (gatF f (qdir q) k ++ KF))) (hc : Chg (fun x => x = bF) wr w') : Scan w w' f q bD bF kD kF KD KF (k + 1) := by
  have e1 : addD (f k) (qdir q) = [] := by unfold addD; rw [if_neg]; rw [hi]; simp
  have e2 : addF (f k) (qdir q) = [(ent (f k) (qdir q)).data.toList] := by unfold addF; rw [if_pos ⟨hp, hi⟩]
  refine ⟨h.no1 hno, ((h.d.kept hc hne).mono (by omega)).congr fun x => ?_, hs.congr fun x => ?_, h.chg.trans hc (fun _ _ h => .inr h)⟩
  · show _ ↔ x ∈ (addD (f k) (qdir q) ++ _) ++ KD
    rw [e1]; rfl
  · show _ ↔ x ∈ (addF (f k) (qdir q) ++ _) ++ KF
    rw [e2]; rfl
theorem Scan.dirNew (h : Scan w wr f q bD bF kD kF KD KF k) (hno : ¬ Hit (f k) q) (hp : pre (f k) (qdir q) = true) {i : Nat} (hi : Lib.indexByte (ent (f k) (qdir q)).data.toList 47 = i) (hne : bD ≠ bF)
    (hs : SetAt Tryz.prog 9 4 w' bD (kD + k + 1) (((ent (f k) (qdir q)).extract 0 i).data.toList :: (gatD f (qdir q) k ++ KD))) (hc : Chg (fun x => x = bD) wr w') : Scan w w' f q bD bF kD kF KD KF (k + 1) := by
  have hi2 : Lib.indexByte (ent (f k) (qdir q)).data.toList 47 ≠ -1 := by rw [hi]; omega
  have e1 : addD (f k) (qdir q) = [((ent (f k) (qdir q)).extract 0 i).data.toList] := by unfold addD; rw [if_pos ⟨hp, hi2⟩, hi, Int.toNat_natCast]
  have e2 : addF (f k) (qdir q) = [] := by unfold addF; rw [if_neg]; exact fun h => hi2 h.2
  refine ⟨h.no1 hno, hs.congr fun x => ?_, ((h.e.kept hc (fun e => hne e.symm)).mono (by omega)).congr fun x => ?_, h.chg.trans hc (fun _ _ h => .inl h)⟩
  · show _ ↔ x ∈ (addD (f k) (qdir q) ++ _) ++ KD
    rw [e1]; rfl
  · show _ ↔ x ∈ (addF (f k) (qdir q) ++ _) ++ KF
    rw [e2]; rfl
theorem Scan.dirOld (h : Scan w wr f q bD bF kD kF KD KF k) (hno : ¬ Hit (f k) q) (hp : pre (f k) (qdir q) = true) {i : Nat} (hi : Lib.indexByte (ent (f k) (qdir q)).data.toList 47 = i)
    (hm : ((ent (f k) (qdir q)).extract 0 i).data.toList ∈ gatD f (qdir q) k ++ KD) : Scan w wr f q bD bF kD kF KD KF (k + 1) := by
  have hi2 : Lib.indexByte (ent (f k) (qdir q)).data.toList 47 ≠ -1 := by rw [hi]; omega
  have e1 : addD (f k) (qdir q) = [((ent (f k) (qdir q)).extract 0 i).data.toList] := by unfold addD; rw [if_pos ⟨hp, hi2⟩, hi, Int.toNat_natCast]
  have e2 : addF (f k) (qdir q) = [] := by unfold addF; rw [if_neg]; exact fun h => hi2 h.2
  refine ⟨h.no1 hno, (h.d.mono (by omega)).congr fun x => ?_, (h.e.mono (by omega)).congr fun x => ?_, h.chg⟩
  · show _ ↔ x ∈ (addD (f k) (qdir q) ++ _) ++ KD
    rw [e1]
    constructor
    · intro hx
      exact List.mem_cons_of_mem _ hx
    · intro hx
      rcases List.mem_cons.1 hx with rfl | hx
      · exact hm
      · exact hx
  · show _ ↔ x ∈ (addF (f k) (qdir q) ++ _) ++ KF
    rw [e2]; rfl
end
/-- What matchQueryPathToResult answers. -/
def MOut (w : World) (f : Nat → ByteArray) (c : Nat → Option Addr × Nat × Nat) (n : Nat) (q : ByteArray) (bD bF kD kF : Nat) (KD KF : List (List UInt8)) (e : Ending) (w' : World) : Prop :=
  (∃ k, k < n ∧ Hit (f k) q ∧ Scan w w' f q bD bF kD kF KD KF k ∧ e = .returned (.tuple #[.int .u8 2, .slice (c k).1 (c k).2.1 (c k).2.2, .string (outS ++ f k), .bool (decide (f k ≠ q))])) ∨
  (Scan w w' f q bD bF kD kF KD KF n ∧ e = .returned (.tuple #[.int .u8 (if anyP f (qdir q) n then 1 else 0), .slice none 0 0, .string ⟨#[]⟩, .bool false]))
theorem rel_no92 (l : List UInt8) (h : Rel l) : 92 ∉ l := by
  have key : ∀ L : List (List UInt8), (∀ x ∈ L, Seg x) → 92 ∉ ([47] : List UInt8).intercalate L := by
    intro L
    induction L with
    | nil => intro _; simp [List.intercalate]
    | cons x r ih =>
      intro hL
      cases r with
      | nil =>
        have e : ([47] : List UInt8).intercalate [x] = x := by simp [List.intercalate]
        rw [e]
        exact (hL x List.mem_cons_self).no92
      | cons y r =>
        rw [inter_two]
        intro hm
        rcases List.mem_append.1 hm with hm | hm
        · exact (hL x List.mem_cons_self).no92 hm
        · rcases List.mem_cons.1 hm with hm | hm
          · cases hm
          · exact ih (fun z hz => hL z (List.mem_cons_of_mem _ hz)) hm
  have := key _ h
  rw [els_join] at this
  exact this
theorem rel_pos (r : ByteArray) (h : Rel r.data.toList) : r.size ≠ 0 := by
  rcases rel_first r h with ⟨k, h1, h2, _⟩ | ⟨_, h2⟩ <;> omega
end Go.Proofs.YtambbfgmbfamkaaGreatDoor
