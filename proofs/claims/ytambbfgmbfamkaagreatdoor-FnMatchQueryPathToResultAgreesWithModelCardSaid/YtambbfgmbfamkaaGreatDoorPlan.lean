/-
  Proved: plain law: what matchQueryPathToResult gathers, file by file. No program and no statement of the seat stands here.
-/
import Derived.Test.YtambbfgmbfamkaaGreatDoorHela
import Derived.Test.YtambbfgmbfamkaaGreatDoorRelw
import Derived.Lib.Strings
import Derived.Lib.PathFns
import Derived.Lib.ShelfFacts
namespace Go.Proofs.YtambbfgmbfamkaaGreatDoor
open Go.RowKit
theorem pre_eq (s p : ByteArray) : Lib.hasPrefix s.data.toList p.data.toList = pre s p := (Lib.hasPrefix_raw s p).symm
def idxB : ByteArray := ⟨#[105, 110, 100, 101, 120, 46, 104, 116, 109, 108]⟩
/-- The folder that the query asks for, and the page in it. -/
def qdir (q : ByteArray) : ByteArray := if q = ⟨#[]⟩ then q else q ++ ⟨#[47]⟩
def qidx (q : ByteArray) : ByteArray := qdir q ++ idxB
def ent (s d : ByteArray) : ByteArray := s.extract d.size s.size
/-- What a file adds to the folders, to the files. -/
def addD (s d : ByteArray) : List (List UInt8) := if pre s d = true ∧ Lib.indexByte (ent s d).data.toList 47 ≠ -1 then [((ent s d).extract 0 (Lib.indexByte (ent s d).data.toList 47).toNat).data.toList] else []
def addF (s d : ByteArray) : List (List UInt8) := if pre s d = true ∧ Lib.indexByte (ent s d).data.toList 47 = -1 then [(ent s d).data.toList] else []
def gatD (f : Nat → ByteArray) (d : ByteArray) : Nat → List (List UInt8)
  | 0 => []
  | k + 1 => addD (f k) d ++ gatD f d k
def gatF (f : Nat → ByteArray) (d : ByteArray) : Nat → List (List UInt8)
  | 0 => []
  | k + 1 => addF (f k) d ++ gatF f d k
def anyP (f : Nat → ByteArray) (d : ByteArray) : Nat → Bool
  | 0 => false
  | k + 1 => anyP f d k || pre (f k) d
/-- The file answers the query. -/
def Hit (s q : ByteArray) : Prop := s = q ∨ s = qidx q
instance (s q : ByteArray) : Decidable (Hit s q) := by unfold Hit; exact inferInstance
theorem split_at (d b : List UInt8) (hd : d = [] ∨ ∃ x, d = x ++ [47]) (hb : 47 ∉ b) : Lib.Pa.split (d ++ b) = (d, b) := by
  have hlen : (Lib.Pa.lastIndexByte (d ++ b) 47 + 1).toNat = d.length := by
    rcases Lib.Pa.lastIndexByte_spec (d ++ b) 47 with ⟨h1, h2⟩ | ⟨i, h1, h2, h3⟩
    · rw [h1]
      rcases hd with rfl | ⟨x, rfl⟩
      · rfl
      · exfalso
        refine h2 x.length ?_
        rw [List.append_assoc, List.getElem?_append_right (Nat.le_refl _)]
        simp
    · rw [h1]
      have hi : i < d.length := by
        refine Nat.lt_of_not_le fun hle => hb ?_
        rw [List.getElem?_append_right hle] at h2
        exact List.mem_of_getElem? h2
      rcases hd with rfl | ⟨x, rfl⟩
      · exact absurd hi (Nat.not_lt_zero _)
      · have hx : ¬ i < x.length := fun hl => by
          refine h3 x.length hl ?_
          rw [List.append_assoc, List.getElem?_append_right (Nat.le_refl _)]
          simp
        simp at hi ⊢
        omega
  unfold Lib.Pa.split
  rw [hlen, List.take_left', List.drop_left'] <;> rfl
theorem split_idx (s d : ByteArray) (hd : d.data.toList = [] ∨ ∃ x, d.data.toList = x ++ [47]) : (s = d ++ idxB) ↔ ((Lib.Pa.split s.data.toList).2 = idxB.data.toList ∧ d.data.toList = (Lib.Pa.split s.data.toList).1) := by
  constructor
  · rintro rfl
    rw [add_list, split_at _ _ hd (by decide)]
    exact ⟨rfl, rfl⟩
  · rintro ⟨h1, h2⟩
    refine of_list ?_
    have := Lib.Pa.split_append s.data.toList
    rw [h1, ← h2] at this
    rw [add_list, this]
theorem qdir_end (q : ByteArray) : (qdir q).data.toList = [] ∨ ∃ x, (qdir q).data.toList = x ++ [47] := by
  unfold qdir
  split
  · rename_i h
    exact .inl (by rw [h])
  · exact .inr ⟨q.data.toList, add_list _ _⟩
theorem ent_size (s d : ByteArray) : (ent s d).size ≤ s.size := by
  unfold ent
  rw [ByteArray.size_extract]
  omega
theorem addD_mem {f : Nat → ByteArray} {d : ByteArray} {k : Nat} {x : List UInt8} : x ∈ gatD f d (k + 1) ↔ x ∈ addD (f k) d ∨ x ∈ gatD f d k := by
  show x ∈ addD (f k) d ++ gatD f d k ↔ _
  exact List.mem_append
theorem addF_mem {f : Nat → ByteArray} {d : ByteArray} {k : Nat} {x : List UInt8} : x ∈ gatF f d (k + 1) ↔ x ∈ addF (f k) d ∨ x ∈ gatF f d k := by
  show x ∈ addF (f k) d ++ gatF f d k ↔ _
  exact List.mem_append
end Go.Proofs.YtambbfgmbfamkaaGreatDoor
