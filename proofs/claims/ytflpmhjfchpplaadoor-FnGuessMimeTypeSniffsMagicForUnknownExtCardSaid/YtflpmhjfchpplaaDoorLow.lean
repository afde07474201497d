/-
  Proved: plain law: the lower case of a text without a dot does not begin with a dot. No program and no statement of the seat stands here.
-/
import Derived.Shelf.Strings.CaseAny
import Derived.Lib.TrimU
import Derived.Lib.TrimAscii
import Derived.Laws.RangeAny
namespace Go.Proofs.YtflpmhjfchpplaaDoor
open Go.Lib
set_option maxRecDepth 100000
/-- No rune from 128 on goes to the dot by this row. -/
def row46 (x : CaseRow) : Bool :=
  if x.delta 1 > 1114111 then decide (46 < x.1) else decide ((x.2.1 : Int) + x.delta 1 < 46) || decide (46 < (x.1 : Int) + x.delta 1) || decide (46 - x.delta 1 < 128)
theorem rows46 : caseT.all row46 = true := by decide +kernel
theorem row_ok (i : Nat) (h : i < caseA.size) : row46 (caseA.getD i (0, 0, 0, 0, 0)) = true := by
  have h2 : i < caseT.length := h
  have : caseA.getD i (0, 0, 0, 0, 0) = caseT[i] := by
    unfold caseA
    simp [h2]
  rw [this]
  exact List.all_eq_true.1 rows46 _ (List.getElem_mem _)
theorem conv46 (x : CaseRow) (hx : row46 x = true) (r : Int) (hr : 128 ≤ r) (hlo : (x.1 : Int) ≤ r) (hhi : r ≤ (x.2.1 : Int)) : convertR 1 r x ≠ 46 := by
  unfold row46 at hx
  unfold convertR
  split at hx
  · rename_i h
    rw [if_pos h]
    simp only [decide_eq_true_eq] at hx
    omega
  · rename_i h
    rw [if_neg h]
    simp only [Bool.or_eq_true, decide_eq_true_eq] at hx
    omega
theorem lower46 (r : Int) (h0 : 0 ≤ r) (h : r ≠ 46) : toLowerU r ≠ 46 := by
  unfold toLowerU
  split
  · split <;> omega
  · unfold toR lookupGo
    cases hi : lookupIdx caseA r (caseA.size + 1) 0 caseA.size with
    | none => exact h
    | some i =>
      obtain ⟨hil, hlo, hhi⟩ := lookupIdx_some caseA r _ _ _ i hi
      exact conv46 _ (row_ok i hil) r (by omega) hlo hhi
theorem enc46 (r : Int) (h0 : 0 ≤ r) (h : r ≠ 46) : ∃ b t, encodeRune r = b :: t ∧ b ≠ 46 := by
  have key : ∀ z : Int, 0 ≤ z → z < 256 → z ≠ 46 → z.toNat.toUInt8 ≠ 46 := fun z h1 h2 h3 e => by
    have e2 : z.toNat.toUInt8.toNat = (46 : UInt8).toNat := by rw [e]
    have e3 : z.toNat.toUInt8.toNat = z.toNat % 256 := by simp
    have e4 : (46 : UInt8).toNat = 46 := rfl
    omega
  unfold encodeRune encodeRuneZ
  split
  · exact ⟨_, _, rfl, key r h0 (by omega) h⟩
  · split
    · exact ⟨_, _, rfl, key _ (by omega) (by omega) (by omega)⟩
    · split
      · exact ⟨_, _, rfl, key _ (by omega) (by omega) (by omega)⟩
      · split
        · exact ⟨_, _, rfl, key _ (by omega) (by omega) (by omega)⟩
        · exact ⟨_, _, rfl, by decide⟩
theorem low_head (l : List UInt8) (h : ∀ b ∈ l, b ≠ 46) : (toLowerD l).head? ≠ some 46 := by
  cases l with
  | nil => unfold toLowerD mapD mapGoD; simp
  | cons b t =>
    have hr : ((decodeL (b :: t)).1 : Int) ≠ 46 := by
      by_cases hb : b.toNat < 128
      · rw [decodeL_ascii b t hb]
        intro e
        refine h b List.mem_cons_self (UInt8.toNat_inj.1 ?_)
        have e4 : (46 : UInt8).toNat = 46 := rfl
        rw [e4]
        have e5 : ((b.toNat : Nat) : Int) = 46 := e
        omega
      · have hs : 0 < (ByteArray.mk (b :: t).toArray).size := by show 0 < (b :: t).toArray.size; simp
        have := (decode_high ⟨(b :: t).toArray⟩ 0 hs (by show 128 ≤ b.toNat; omega)).1
        unfold decodeL
        omega
    have hle := decodeL_rune (b :: t)
    have h1 := toLowerU_range (decodeL (b :: t)).1 hle
    have h2 := lower46 ((decodeL (b :: t)).1 : Int) (by omega) hr
    obtain ⟨c, u, e, hc⟩ := enc46 (toLowerU ((decodeL (b :: t)).1 : Int)) h1.1 h2
    unfold toLowerD mapD
    rw [List.length_cons]
    unfold mapGoD
    rw [if_neg (by simp), if_pos h1.1, e]
    simp [hc]
theorem low_len_go (f : Int → Int) : ∀ (n : Nat) (l : List UInt8), (mapGoD f n l).length ≤ 4 * n
  | 0, l => by unfold mapGoD; simp
  | n + 1, l => by
    unfold mapGoD
    split
    · simp
    · rw [List.length_append]
      have ih := low_len_go f n (l.drop (decodeL l).2)
      have he : (if 0 ≤ f (decodeL l).1 then encodeRune (f (decodeL l).1) else []).length ≤ 4 := by
        split
        · unfold encodeRune
          rw [List.length_map]
          exact (encodeRuneZ_length _).2
        · simp
      omega
theorem low_len (l : List UInt8) : (toLowerD l).length ≤ 4 * l.length := low_len_go toLowerU l.length l
end Go.Proofs.YtflpmhjfchpplaaDoor
