/-
  Proved: the rest of the contract of esmHandlePostConditions at this program. No statement of the seat stands here.
-/
import Derived.Test.YtmhjhipldabaoaaFmtPost
namespace Go.Proofs.YtmhjhipldabaoaaFmt
open Go.RowKit Go.ChangeAt
set_option linter.unusedSimpArgs false
set_option linter.unusedVariables false

theorem len_of_dec {s : ByteArray} {out : List UInt8} {sl : Bool} (h : dec (bt s) s.size 0 = some (out, sl)) : out.length ≤ s.size := by
  obtain ⟨k, hk⟩ := al_of_dec h
  have := hk.length
  omega
set_option maxRecDepth 100000 in
set_option maxHeartbeats 2000000 in
theorem post_end1 (s b : ByteArray) (hs : s.size ≤ 1048576) (x y : Int) (n : Bool) (st : Nat) (hst : st = 3 ∨ st = 4 ∨ st = 5) (out : List UInt8) (sl : Bool) (hd : dec (bt s) s.size 0 = some (out, sl)) (hn1 : ¬ Has s 50 102) (hn2 : ¬ Has s 50 70) (hn3 : ¬ Has s 53 99) (hn4 : ¬ Has s 53 67) (he1 : Lib.hasSuffix out [47] = true) (w : World) (hw0 : 0 < w.heap.size) (hT : HexTab w) :
    Calls Tryf.prog 13 #[rq, .string s, .int .u8 st, dbg b x y n] w (PostOut s 14 (dbg b x y n) w) := by
  have HT := Lib.hid hT
  clear hT
  have Hd := Lib.hid hd
  have hol := len_of_dec hd
  have Hol : (⟨out.toArray⟩ : ByteArray).size ≤ 9223372036854775807 := by show out.length ≤ _; omega
  have Hn1 := Lib.hid hn1
  have Hn2 := Lib.hid hn2
  have Hn3 := Lib.hid hn3
  have Hn4 := Lib.hid hn4
  have He1 : Hid (Lib.hasSuffix (ByteArray.data ⟨out.toArray⟩).toList (ByteArray.data ⟨#[47]⟩).toList = true) := Lib.hid he1
  clear hd hol hn1 hn2 hn3 hn4 he1
  unfold rq dbg
  rcases hst with rfl | rfl | rfl
  all_goals (
    go_enter Tryf.func13, Tryf.ntmps13
    go_wp2_with fail
    have Hf := Lib.hid (Frame.start w #[.string b, .slice none 0 0, .int .i32 x, .int .i32 y, .bool n] #[.string ⟨#[]⟩, .slice none 0 0, .int .i32 0, .int .i32 0, .bool false])
    generalize hw3 : (((w.alloc (.cells #[.pointer none, .pointer none, .pointer none, .int .u8 0] 44)).alloc (.cells #[.string b, .slice none 0 0, .int .i32 x, .int .i32 y, .bool n] 36)).alloc (.cells #[.string ⟨#[]⟩, .slice none 0 0, .int .i32 0, .int .i32 0, .bool false] 36)) = w3 at Hf ⊢
    clear hw3
    refine (pathUnescape_any s hs w3 (HT.out.below Hf.out.bel hw0)).mono ?_
    rintro e w1 ⟨_, h1⟩
    obtain ⟨rfl, hb⟩ := h1 out sl Hd.out
    have HF := Lib.hid (Hf.out.keep hb)
    clear h1 hb
    have hq2 := cell_of_heap HF.out.q 2
    have hd0 := cell_of_heap HF.out.d 0
    have hd1 := cell_of_heap HF.out.d 1
    have hd2 := cell_of_heap HF.out.d 2
    have hd3 := cell_of_heap HF.out.d 3
    have hd4 := cell_of_heap HF.out.d 4
    have hz0 := cell_of_heap HF.out.z 0
    have hz1 := cell_of_heap HF.out.z 1
    have hz2 := cell_of_heap HF.out.z 2
    have hz3 := cell_of_heap HF.out.z 3
    have hz4 := cell_of_heap HF.out.z 4
    have fz0 := frozen_of_heap HF.out.z 0
    have fz1 := frozen_of_heap HF.out.z 1
    have fz2 := frozen_of_heap HF.out.z 2
    have fz3 := frozen_of_heap HF.out.z 3
    have fz4 := frozen_of_heap HF.out.z 4
    simp at hq2 hd0 hd1 hd2 hd3 hd4 hz0 hz1 hz2 hz3 hz4
    go_wp2_with fail
    refine (contains_no s 50 102 hs Hn1.out _).mono ?_
    rintro e w' ⟨rfl, rfl⟩
    go_wp2_with fail
    refine (contains_no s 50 70 hs Hn2.out _).mono ?_
    rintro e w' ⟨rfl, rfl⟩
    go_wp2_with fail
    refine (contains_no s 53 99 hs Hn3.out _).mono ?_
    rintro e w' ⟨rfl, rfl⟩
    go_wp2_with fail
    refine (contains_no s 53 67 hs Hn4.out _).mono ?_
    rintro e w' ⟨rfl, rfl⟩
    go_wp2_with fail
    refine (Tryf.strings_HasSuffix ⟨out.toArray⟩ ⟨#[47]⟩ _ Hol).mono ?_
    rintro e w' ⟨rfl, rfl⟩
    rw [He1.out]
    go_wp2
    go_region
    go_wp2
    obtain ⟨hW, hB⟩ := HF.out.done5 (.string b) (.slice none 0 0) (.int .i32 x) (.int .i32 y) (.bool n)
    refine bodyPost_ret (v := .tuple #[.string s, .int .u8 14, .agg #[.string b, .slice none 0 0, .int .i32 x, .int .i32 y, .bool n]]) ?_ rfl ⟨rfl, hB⟩
    exact (results_ttc (t := 8) (u := 9) (p := 10) (ty := 36) (by rfl) _ _ _ (w.heap.size + 1 + 1) (.agg #[.string b, .slice none 0 0, .int .i32 x, .int .i32 y, .bool n]) (by rfl) (load36 hW (by rfl))).trans (by rfl))
set_option maxRecDepth 100000 in
set_option maxHeartbeats 2000000 in
theorem post_end2 (s b : ByteArray) (hs : s.size ≤ 1048576) (x y : Int) (n : Bool) (st : Nat) (hst : st = 3 ∨ st = 4 ∨ st = 5) (out : List UInt8) (sl : Bool) (hd : dec (bt s) s.size 0 = some (out, sl)) (hn1 : ¬ Has s 50 102) (hn2 : ¬ Has s 50 70) (hn3 : ¬ Has s 53 99) (hn4 : ¬ Has s 53 67) (he1 : Lib.hasSuffix out [47] = false) (he2 : Lib.hasSuffix out [92] = true) (w : World) (hw0 : 0 < w.heap.size) (hT : HexTab w) :
    Calls Tryf.prog 13 #[rq, .string s, .int .u8 st, dbg b x y n] w (PostOut s 14 (dbg b x y n) w) := by
  have HT := Lib.hid hT
  clear hT
  have Hd := Lib.hid hd
  have hol := len_of_dec hd
  have Hol : (⟨out.toArray⟩ : ByteArray).size ≤ 9223372036854775807 := by show out.length ≤ _; omega
  have Hn1 := Lib.hid hn1
  have Hn2 := Lib.hid hn2
  have Hn3 := Lib.hid hn3
  have Hn4 := Lib.hid hn4
  have He1 : Hid (Lib.hasSuffix (ByteArray.data ⟨out.toArray⟩).toList (ByteArray.data ⟨#[47]⟩).toList = false) := Lib.hid he1
  have He2 : Hid (Lib.hasSuffix (ByteArray.data ⟨out.toArray⟩).toList (ByteArray.data ⟨#[92]⟩).toList = true) := Lib.hid he2
  clear hd hol hn1 hn2 hn3 hn4 he1 he2
  unfold rq dbg
  rcases hst with rfl | rfl | rfl
  all_goals (
    go_enter Tryf.func13, Tryf.ntmps13
    go_wp2_with fail
    have Hf := Lib.hid (Frame.start w #[.string b, .slice none 0 0, .int .i32 x, .int .i32 y, .bool n] #[.string ⟨#[]⟩, .slice none 0 0, .int .i32 0, .int .i32 0, .bool false])
    generalize hw3 : (((w.alloc (.cells #[.pointer none, .pointer none, .pointer none, .int .u8 0] 44)).alloc (.cells #[.string b, .slice none 0 0, .int .i32 x, .int .i32 y, .bool n] 36)).alloc (.cells #[.string ⟨#[]⟩, .slice none 0 0, .int .i32 0, .int .i32 0, .bool false] 36)) = w3 at Hf ⊢
    clear hw3
    refine (pathUnescape_any s hs w3 (HT.out.below Hf.out.bel hw0)).mono ?_
    rintro e w1 ⟨_, h1⟩
    obtain ⟨rfl, hb⟩ := h1 out sl Hd.out
    have HF := Lib.hid (Hf.out.keep hb)
    clear h1 hb
    have hq2 := cell_of_heap HF.out.q 2
    have hd0 := cell_of_heap HF.out.d 0
    have hd1 := cell_of_heap HF.out.d 1
    have hd2 := cell_of_heap HF.out.d 2
    have hd3 := cell_of_heap HF.out.d 3
    have hd4 := cell_of_heap HF.out.d 4
    have hz0 := cell_of_heap HF.out.z 0
    have hz1 := cell_of_heap HF.out.z 1
    have hz2 := cell_of_heap HF.out.z 2
    have hz3 := cell_of_heap HF.out.z 3
    have hz4 := cell_of_heap HF.out.z 4
    have fz0 := frozen_of_heap HF.out.z 0
    have fz1 := frozen_of_heap HF.out.z 1
    have fz2 := frozen_of_heap HF.out.z 2
    have fz3 := frozen_of_heap HF.out.z 3
    have fz4 := frozen_of_heap HF.out.z 4
    simp at hq2 hd0 hd1 hd2 hd3 hd4 hz0 hz1 hz2 hz3 hz4
    go_wp2_with fail
    refine (contains_no s 50 102 hs Hn1.out _).mono ?_
    rintro e w' ⟨rfl, rfl⟩
    go_wp2_with fail
    refine (contains_no s 50 70 hs Hn2.out _).mono ?_
    rintro e w' ⟨rfl, rfl⟩
    go_wp2_with fail
    refine (contains_no s 53 99 hs Hn3.out _).mono ?_
    rintro e w' ⟨rfl, rfl⟩
    go_wp2_with fail
    refine (contains_no s 53 67 hs Hn4.out _).mono ?_
    rintro e w' ⟨rfl, rfl⟩
    go_wp2_with fail
    refine (Tryf.strings_HasSuffix ⟨out.toArray⟩ ⟨#[47]⟩ _ Hol).mono ?_
    rintro e w' ⟨rfl, rfl⟩
    rw [He1.out]
    go_wp2_with fail
    refine (Tryf.strings_HasSuffix ⟨out.toArray⟩ ⟨#[92]⟩ _ Hol).mono ?_
    rintro e w' ⟨rfl, rfl⟩
    rw [He2.out]
    go_wp2
    go_region
    go_wp2
    obtain ⟨hW, hB⟩ := HF.out.done5 (.string b) (.slice none 0 0) (.int .i32 x) (.int .i32 y) (.bool n)
    refine bodyPost_ret (v := .tuple #[.string s, .int .u8 14, .agg #[.string b, .slice none 0 0, .int .i32 x, .int .i32 y, .bool n]]) ?_ rfl ⟨rfl, hB⟩
    exact (results_ttc (t := 8) (u := 9) (p := 10) (ty := 36) (by rfl) _ _ _ (w.heap.size + 1 + 1) (.agg #[.string b, .slice none 0 0, .int .i32 x, .int .i32 y, .bool n]) (by rfl) (load36 hW (by rfl))).trans (by rfl))
set_option maxRecDepth 100000 in
set_option maxHeartbeats 2000000 in
theorem post_good (s b : ByteArray) (hs : s.size ≤ 1048576) (x y : Int) (n : Bool) (st : Nat) (hst : st = 3 ∨ st = 4 ∨ st = 5) (out : List UInt8) (sl : Bool) (hd : dec (bt s) s.size 0 = some (out, sl)) (hn1 : ¬ Has s 50 102) (hn2 : ¬ Has s 50 70) (hn3 : ¬ Has s 53 99) (hn4 : ¬ Has s 53 67) (he1 : Lib.hasSuffix out [47] = false) (he2 : Lib.hasSuffix out [92] = false) (w : World) (hw0 : 0 < w.heap.size) (hT : HexTab w) :
    Calls Tryf.prog 13 #[rq, .string s, .int .u8 st, dbg b x y n] w (PostOut ⟨out.toArray⟩ st (dbg b x y n) w) := by
  have HT := Lib.hid hT
  clear hT
  have Hd := Lib.hid hd
  have hol := len_of_dec hd
  have Hol : (⟨out.toArray⟩ : ByteArray).size ≤ 9223372036854775807 := by show out.length ≤ _; omega
  have Hn1 := Lib.hid hn1
  have Hn2 := Lib.hid hn2
  have Hn3 := Lib.hid hn3
  have Hn4 := Lib.hid hn4
  have He1 : Hid (Lib.hasSuffix (ByteArray.data ⟨out.toArray⟩).toList (ByteArray.data ⟨#[47]⟩).toList = false) := Lib.hid he1
  have He2 : Hid (Lib.hasSuffix (ByteArray.data ⟨out.toArray⟩).toList (ByteArray.data ⟨#[92]⟩).toList = false) := Lib.hid he2
  clear hd hol hn1 hn2 hn3 hn4 he1 he2
  unfold rq dbg
  rcases hst with rfl | rfl | rfl
  all_goals (
    go_enter Tryf.func13, Tryf.ntmps13
    go_wp2_with fail
    have Hf := Lib.hid (Frame.start w #[.string b, .slice none 0 0, .int .i32 x, .int .i32 y, .bool n] #[.string ⟨#[]⟩, .slice none 0 0, .int .i32 0, .int .i32 0, .bool false])
    generalize hw3 : (((w.alloc (.cells #[.pointer none, .pointer none, .pointer none, .int .u8 0] 44)).alloc (.cells #[.string b, .slice none 0 0, .int .i32 x, .int .i32 y, .bool n] 36)).alloc (.cells #[.string ⟨#[]⟩, .slice none 0 0, .int .i32 0, .int .i32 0, .bool false] 36)) = w3 at Hf ⊢
    clear hw3
    refine (pathUnescape_any s hs w3 (HT.out.below Hf.out.bel hw0)).mono ?_
    rintro e w1 ⟨_, h1⟩
    obtain ⟨rfl, hb⟩ := h1 out sl Hd.out
    have HF := Lib.hid (Hf.out.keep hb)
    clear h1 hb
    have hq2 := cell_of_heap HF.out.q 2
    have hd0 := cell_of_heap HF.out.d 0
    have hd1 := cell_of_heap HF.out.d 1
    have hd2 := cell_of_heap HF.out.d 2
    have hd3 := cell_of_heap HF.out.d 3
    have hd4 := cell_of_heap HF.out.d 4
    have hz0 := cell_of_heap HF.out.z 0
    have hz1 := cell_of_heap HF.out.z 1
    have hz2 := cell_of_heap HF.out.z 2
    have hz3 := cell_of_heap HF.out.z 3
    have hz4 := cell_of_heap HF.out.z 4
    have fz0 := frozen_of_heap HF.out.z 0
    have fz1 := frozen_of_heap HF.out.z 1
    have fz2 := frozen_of_heap HF.out.z 2
    have fz3 := frozen_of_heap HF.out.z 3
    have fz4 := frozen_of_heap HF.out.z 4
    simp at hq2 hd0 hd1 hd2 hd3 hd4 hz0 hz1 hz2 hz3 hz4
    go_wp2_with fail
    refine (contains_no s 50 102 hs Hn1.out _).mono ?_
    rintro e w' ⟨rfl, rfl⟩
    go_wp2_with fail
    refine (contains_no s 50 70 hs Hn2.out _).mono ?_
    rintro e w' ⟨rfl, rfl⟩
    go_wp2_with fail
    refine (contains_no s 53 99 hs Hn3.out _).mono ?_
    rintro e w' ⟨rfl, rfl⟩
    go_wp2_with fail
    refine (contains_no s 53 67 hs Hn4.out _).mono ?_
    rintro e w' ⟨rfl, rfl⟩
    go_wp2_with fail
    refine (Tryf.strings_HasSuffix ⟨out.toArray⟩ ⟨#[47]⟩ _ Hol).mono ?_
    rintro e w' ⟨rfl, rfl⟩
    rw [He1.out]
    go_wp2_with fail
    refine (Tryf.strings_HasSuffix ⟨out.toArray⟩ ⟨#[92]⟩ _ Hol).mono ?_
    rintro e w' ⟨rfl, rfl⟩
    rw [He2.out]
    go_wp2
    go_region
    go_wp2
    obtain ⟨hW, hB⟩ := HF.out.done5 (.string b) (.slice none 0 0) (.int .i32 x) (.int .i32 y) (.bool n)
    refine bodyPost_ret (v := .tuple #[.string ⟨out.toArray⟩, .int .u8 _, .agg #[.string b, .slice none 0 0, .int .i32 x, .int .i32 y, .bool n]]) ?_ rfl ⟨rfl, hB⟩
    exact (results_ttc (t := 8) (u := 9) (p := 10) (ty := 36) (by rfl) _ _ _ (w.heap.size + 1 + 1) (.agg #[.string b, .slice none 0 0, .int .i32 x, .int .i32 y, .bool n]) (by rfl) (load36 hW (by rfl))).trans (by rfl))
/-- esmHandlePostConditions, whatever it is given (a text of at most 2^20 bytes): it answers 'post'. -/
theorem post_any (s b : ByteArray) (hs : s.size ≤ 1048576) (x y : Int) (n : Bool) (st : Nat) (hst : st < 256) (w : World) (hw0 : 0 < w.heap.size) (hT : HexTab w) :
    Calls Tryf.prog 13 #[rq, .string s, .int .u8 st, dbg b x y n] w (PostOut (post s st).1 (post s st).2 (dbg b x y n) w) := by
  unfold post
  cases ha : act st with
  | false => simpa using post_idle s b x y n st hst ha w
  | true =>
    have h3 : st = 3 ∨ st = 4 ∨ st = 5 := by simp [act] at ha; omega
    cases hd : dec (bt s) s.size 0 with
    | none => simpa using post_bad s b hs x y n st h3 hd w hw0 hT
    | some r =>
      obtain ⟨out, sl⟩ := r
      have hh := slash_has hd
      by_cases h1 : Has s 50 102
      · obtain rfl := hh.2 (.inl h1)
        simpa using post_has1 s b hs x y n st h3 out true hd h1 w hw0 hT
      by_cases h2 : Has s 50 70
      · obtain rfl := hh.2 (.inr (.inl h2))
        simpa using post_has2 s b hs x y n st h3 out true hd h1 h2 w hw0 hT
      by_cases h4 : Has s 53 99
      · obtain rfl := hh.2 (.inr (.inr (.inl h4)))
        simpa using post_has3 s b hs x y n st h3 out true hd h1 h2 h4 w hw0 hT
      by_cases h5 : Has s 53 67
      · obtain rfl := hh.2 (.inr (.inr (.inr h5)))
        simpa using post_has4 s b hs x y n st h3 out true hd h1 h2 h4 h5 w hw0 hT
      have hsl : sl = false := by
        cases sl with
        | false => rfl
        | true => rcases hh.1 rfl with h | h | h | h <;> contradiction
      subst hsl
      cases he1 : Lib.hasSuffix out [47] with
      | true => simpa [endSl, he1] using post_end1 s b hs x y n st h3 out false hd h1 h2 h4 h5 he1 w hw0 hT
      | false =>
        cases he2 : Lib.hasSuffix out [92] with
        | true => simpa [endSl, he1, he2] using post_end2 s b hs x y n st h3 out false hd h1 h2 h4 h5 he1 he2 w hw0 hT
        | false => simpa [endSl, he1, he2] using post_good s b hs x y n st h3 out false hd h1 h2 h4 h5 he1 he2 w hw0 hT
end Go.Proofs.YtmhjhipldabaoaaFmt
