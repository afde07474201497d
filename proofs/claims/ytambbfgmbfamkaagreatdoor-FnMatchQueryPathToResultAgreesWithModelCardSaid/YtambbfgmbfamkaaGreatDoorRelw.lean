/-
  Proved: contracts of splitOnSlash and of the mock file system's Rel at '/out'. No statement of the seat stands here.
-/
import Derived.Test.YtambbfgmbfamkaaGreatDoorHela
import Derived.Test.YtambbfgmbfamkaaGreatDoorShelf
namespace Go.Proofs.YtambbfgmbfamkaaGreatDoor
open Go.RowKit Go.ChangeAt
set_option linter.unusedSimpArgs false
set_option linter.unusedVariables false
set_option maxRecDepth 100000
def TwoOut (a b : ByteArray) (w : World) (e : Ending) (w' : World) : Prop := e = .returned (.tuple #[.string a, .string b]) ∧ Chg Nowhere w w'
theorem split92_at (s a b : ByteArray) (k : Nat) (w : World) (hs : s.size ≤ 4194304) (hk : k < s.size) (hi : Lib.indexByte s.data.toList 47 = k) (ha : s.extract 0 k = a) (hb : ∀ n, n = s.size → s.extract (k + 1) n = b) :
    Calls Tryz.prog 92 #[.string s] w (TwoOut a b w) := by
  have HA := Lib.hid ha
  have HB := Lib.hid (hb s.size rfl)
  have hk1 : (k : Int) ≤ (s.size : Int) := by omega
  have hk2 : (0 : Int) ≤ (k : Int) := by omega
  have hk3 : (k : Int) + 1 ≤ (s.size : Int) := by omega
  have hk4 : ((k : Int) == -1) = false := beq_eq_false_iff_ne.2 (by omega)
  have hk5 : ((k : Int) + 1).toNat = k + 1 := by omega
  have HI := Lib.hid (Tryz.strings_IndexByte s 47 w)
  have hi' : Lib.indexByte s.data.toList (47 : Int).toNat.toUInt8 = k := hi
  rw [hi'] at HI
  clear ha hb hi hi'
  go_enter Tryz.func92, Tryz.ntmps92
  go_wp2_with fail
  refine HI.out.mono ?_
  rintro e1 w1 ⟨rfl, rfl⟩
  go_wp2_with fail
  go_quiet (fail)
  go_wp2_with fail
  go_ret2
  refine ⟨?_, ?_⟩
  · show Ending.returned (.tuple #[.string _, .string _]) = _
    rw [HA.out, HB.out]
  · exact (Chg.refl _ _).drewN _
theorem split92_no (s : ByteArray) (w : World) (hi : Lib.indexByte s.data.toList 47 = -1) : Calls Tryz.prog 92 #[.string s] w (TwoOut s ⟨#[]⟩ w) := by
  have HI := Lib.hid (Tryz.strings_IndexByte s 47 w)
  have hi' : Lib.indexByte s.data.toList (47 : Int).toNat.toUInt8 = -1 := hi
  rw [hi'] at HI
  clear hi hi'
  go_enter Tryz.func92, Tryz.ntmps92
  go_wp2_with fail
  refine HI.out.mono ?_
  rintro e1 w1 ⟨rfl, rfl⟩
  go_wp2_with fail
  go_ret2
  exact ⟨rfl, Chg.refl _ _⟩
def outB : ByteArray := ⟨#[47, 111, 117, 116]⟩
def outS : ByteArray := ⟨#[47, 111, 117, 116, 47]⟩
def outN : ByteArray := ⟨#[111, 117, 116]⟩
def outH : ByteArray := ⟨#[111, 117, 116, 47]⟩
theorem add_size (a b : ByteArray) : (a ++ b).size = a.size + b.size := ByteArray.size_append
theorem add_list (a b : ByteArray) : (a ++ b).data.toList = a.data.toList ++ b.data.toList := by rw [ByteArray.data_append, Array.toList_append]
theorem of_list {a b : ByteArray} (h : a.data.toList = b.data.toList) : a = b := ByteArray.ext (Array.toList_inj.1 h)
/-- The whole of a path behind '/out/' is not '/out'. -/
theorem out_ne (r : ByteArray) : (outB.toList == (outS ++ r).toList) = false := by
  refine beq_eq_false_iff_ne.2 fun e => ?_
  have := congrArg List.length e
  rw [ByteArray.toList_eq, ByteArray.toList_eq, add_list, List.length_append] at this
  have h1 : outB.data.toList.length = 4 := rfl
  have h2 : outS.data.toList.length = 5 := rfl
  omega
theorem ext_zero (a b : ByteArray) (l : List UInt8) (k n : Nat) (hl : b.data.toList = l) (h : (l.drop k).take (n - k) = a.data.toList) : b.extract k n = a := by
  apply of_list
  rw [ext_list, hl]
  exact h
/-- The path's first segment and what is behind it: the first is not empty. -/
theorem rel_first (r : ByteArray) (h : Rel r.data.toList) : (∃ k : Nat, 0 < k ∧ k < r.size ∧ Lib.indexByte r.data.toList 47 = k) ∨ (Lib.indexByte r.data.toList 47 = -1 ∧ 0 < r.size) := by
  have hg := Lib.indexByte_ge r.data.toList 47
  have hne : r.data.toList ≠ [] := by
    intro e
    have := h [] (by rw [e, els_one _ (by simp)]; exact List.mem_cons_self)
    exact this.ne rfl
  have h0 : 0 < r.size := by
    rw [← len_list]
    exact List.length_pos_iff.2 hne
  by_cases h1 : Lib.indexByte r.data.toList 47 = -1
  · exact .inr ⟨h1, h0⟩
  · obtain ⟨o, ho⟩ : ∃ o : Nat, Lib.indexByte r.data.toList 47 = o := ⟨(Lib.indexByte r.data.toList 47).toNat, by omega⟩
    obtain ⟨h2, h3⟩ := Lib.indexByte_some ho
    refine .inl ⟨o, ?_, by rw [← len_list]; exact (List.getElem?_eq_some_iff.1 h2).1, ho⟩
    rcases Nat.eq_zero_or_pos o with rfl | hp
    · exfalso
      cases hl : r.data.toList with
      | nil => exact hne hl
      | cons c t =>
        rw [hl] at h2
        have hc : c = 47 := by simpa using h2
        subst hc
        have := h [] (by rw [hl, Lib.Pa.els_slash]; exact List.mem_cons_self)
        exact this.ne rfl
    · exact hp
theorem out_list (r : ByteArray) : (outS ++ r).data.toList = [47, 111, 117, 116, 47] ++ r.data.toList := add_list _ _
theorem clean_path (r : ByteArray) (h : Rel r.data.toList) : (⟨(Lib.Pa.clean (outS ++ r).data.toList).toArray⟩ : ByteArray) = outS ++ r := by
  apply of_list
  rw [out_list, clean_rel _ h]
theorem clean_base : (⟨(Lib.Pa.clean outB.data.toList).toArray⟩ : ByteArray) = outB := by
  apply of_list
  have : outB.data.toList = [47, 111, 117, 116] := rfl
  rw [this, clean_out]
theorem idx_cons (c : UInt8) (l : List UInt8) (h : c = 47) : Lib.indexByte (c :: l) 47 = 0 := by subst h; simp [Lib.indexByte]
theorem idx_skip (c : UInt8) (l : List UInt8) (n : Nat) (h : ¬ c = 47) (hn : Lib.indexByte l 47 = n) : Lib.indexByte (c :: l) 47 = ((n + 1 : Nat) : Int) := by
  have h2 : ((n : Int) == -1) = false := beq_eq_false_iff_ne.2 (by omega)
  simp [Lib.indexByte, h, hn, h2]
/-- What the three rounds of Rel's loop need. -/
structure Cut (B N E T O r : ByteArray) : Prop where
  a : ∀ w, Calls Tryz.prog 92 #[.string B] w (TwoOut E N w)
  b : ∀ w, Calls Tryz.prog 92 #[.string T] w (TwoOut E O w)
  c : ∀ w, Calls Tryz.prog 92 #[.string N] w (TwoOut N E w)
  d : ∀ w, Calls Tryz.prog 92 #[.string O] w (TwoOut N r w)
  e : ∀ w, Calls Tryz.prog 92 #[.string E] w (TwoOut E E w)
  f : ∀ w, Calls Tryz.prog 92 #[.string r] w (fun e w' => ∃ x y : ByteArray, e = .returned (.tuple #[.string x, .string y]) ∧ Chg Nowhere w w' ∧ (E.toList == x.toList) = false)
theorem nil_ne (x : ByteArray) (h : 0 < x.size) : ((⟨#[]⟩ : ByteArray).toList == x.toList) = false := by
  refine beq_eq_false_iff_ne.2 fun e => ?_
  have := congrArg List.length e
  rw [ByteArray.toList_eq, ByteArray.toList_eq, len_list, len_list] at this
  have h0 : (⟨#[]⟩ : ByteArray).size = 0 := rfl
  omega
theorem cut_ok (r : ByteArray) (h : Rel r.data.toList) (hs : r.size ≤ 1048576) : Cut outB outN ⟨#[]⟩ (outS ++ r) (outH ++ r) r where
  a := fun w => split92_at outB _ _ 0 w (by decide) (by decide) (by rfl) (by rfl) (fun n hn => by subst hn; rfl)
  b := fun w => by
    have hz : (outS ++ r).size = 5 + r.size := add_size _ _
    refine split92_at (outS ++ r) _ _ 0 w (by omega) (by omega) ?_ ?_ ?_
    · rw [out_list]
      exact idx_cons 47 _ rfl
    · exact ext_zero _ _ _ 0 0 rfl (by simp)
    · intro n hn
      refine ext_zero _ _ _ 1 n (out_list r) ?_
      rw [add_list, hn, hz, List.take_of_length_le]
      · rfl
      · simp [len_list]
        have := len_list r
        simp at this
        omega
  c := fun w => split92_no outN w (by rfl)
  d := fun w => by
    have hz : (outH ++ r).size = 4 + r.size := add_size _ _
    have hl : (outH ++ r).data.toList = 111 :: 117 :: 116 :: 47 :: r.data.toList := add_list _ _
    refine split92_at (outH ++ r) _ _ 3 w (by omega) (by omega) ?_ ?_ ?_
    · rw [hl]
      exact idx_skip _ _ 2 (by decide) (idx_skip _ _ 1 (by decide) (idx_skip _ _ 0 (by decide) (idx_cons 47 _ rfl)))
    · exact ext_zero _ _ _ 0 3 hl (by rfl)
    · intro n hn
      refine ext_zero _ _ _ 4 n hl ?_
      rw [hn, hz, List.take_of_length_le]
      · rfl
      · show r.data.toList.length ≤ _
        rw [len_list]
        omega
  e := fun w => split92_no _ w (by rfl)
  f := fun w => by
    rcases rel_first r h with ⟨k, h1, h2, h3⟩ | ⟨h1, h2⟩
    · refine (split92_at r _ _ k w (by omega) h2 h3 rfl (fun n hn => by subst hn; rfl)).mono ?_
      rintro e w' ⟨he, hc⟩
      exact ⟨_, _, he, hc, nil_ne _ (by rw [ByteArray.size_extract]; omega)⟩
    · refine (split92_no r w h1).mono ?_
      rintro e w' ⟨he, hc⟩
      exact ⟨_, _, he, hc, nil_ne _ h2⟩
end Go.Proofs.YtambbfgmbfamkaaGreatDoor
