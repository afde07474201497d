/-
  Proved: the law's last piece: the lengths, the lists, the answer. No statement of the seat stands here.
-/
import Derived.Test.YtambbfgmbfamkaaGreatDoorLawb
namespace Go.Proofs.YtambbfgmbfamkaaGreatDoor
open Go.RowKit Go.ChangeAt
set_option linter.unusedSimpArgs false
set_option linter.unusedVariables false
set_option maxRecDepth 1000000
/-- The answer of the program beside the model's hit. -/
def Ans (f : Nat → ByteArray) (q : ByteArray) (c : Nat → Option Addr × Nat × Nat) (n S : Nat) (v17 v18 v19 v20 v23 : Value) : Prop :=
  (S < n ∧ v17 = .int .i64 2 ∧ v18 = .slice (c S).1 (c S).2.1 (c S).2.2 ∧ v19 = .string (outS ++ f S) ∧ v20 = .bool (decide (f S ≠ q)) ∧ v23 = .int .i64 S) ∨
  (S = n ∧ v17 = .int .i64 (if anyP f (qdir q) n then 1 else 0) ∧ v18 = .slice none 0 0 ∧ v19 = .string ⟨#[]⟩ ∧ v20 = .bool false ∧ v23 = .int .i64 (-1))
/-- An element of the list is looked up in the program's set. -/
theorem look {w : World} {B : Nat} {vo : Option Addr} {l vc b nb : Nat} {DL K : List (List UInt8)} (h : Lst w B vo l vc DL K) (hs : SetAt Tryz.prog 9 4 w b nb K) (hK : ∀ x ∈ K, x.length ≤ 1048576) (k : Nat) (hk : k < l) :
    ∃ g s, vo = some ⟨g, 0, none⟩ ∧ w.cell? ⟨g, k, none⟩ = some (.string s) ∧ (Instr.lookup 35 (.map (some b)) (.string s) false).run Tryz.prog w = .ok (.bool true) w := by
  have hl := h.len
  have hd : k < DL.length := by omega
  have hm : DL[k] ∈ K := (h.mem _).1 (List.getElem_mem hd)
  rcases ownsRow_addr h.own with ⟨_, h0, _⟩ | ⟨g, rfl, _⟩
  · omega
  · have hc := h.own.cells (g := g) rfl k (strV DL[k]) (by rw [List.getElem?_map, List.getElem?_eq_getElem hd]; rfl)
    rw [add_cell, Nat.zero_add] at hc
    have hg := run_set_get (P := Tryz.prog) (t := 35) Tryz.underlying35 Tryz.underlying9 Tryz.underlying4 Tryz.zeroValue4 hs ⟨DL[k].toArray⟩ (by have := hK _ hm; show DL[k].length ≤ maxLen; unfold maxLen; omega)
    rw [decide_eq_true (by exact hm)] at hg
    exact ⟨g, _, rfl, hc, hg⟩
set_option maxHeartbeats 16000000 in
theorem tail28 (q : ByteArray) (f : Nat → ByteArray) (c : Nat → Option Addr × Nat × Nat) (a b y : Option Addr) (n cn m cm p cp bD bF kD kF S : Nat) (w0 wa wb : World) (B bE bG : Nat) (vo vo2 : Option Addr) (l vc l2 vc2 cD cF : Nat) (DL FL K K2 : List (List UInt8)) (hM : Mod wa wb B bE bG vo vo2 l vc l2 vc2 cD cF DL FL K K2)
    (hD : SetAt Tryz.prog 9 4 wb bD kD K) (hE : SetAt Tryz.prog 9 4 wb bF kF K2) (hl : l ≤ 1000000000) (hl2 : l2 ≤ 1000000000) (hK : ∀ x ∈ K, x.length ≤ 1048576) (hK2 : ∀ x ∈ K2, x.length ≤ 1048576)
    (hch : Chg Nowhere w0 wb) (hR : Reads wb a n (strAt f)) (hn : n ≤ 1048576) (hC : Con wb w0.heap.size n c) (v17 v18 v19 v20 v21 v23 : Value) (hA : Ans f q c n S v17 v18 v19 v20 v23) (hq : q.size ≤ 1048576) (hf : ∀ i, i < n → (f i).size ≤ 1048576) (x : Nat → Value) :
    Code.wp Tryz.prog T28 (bodyPost Tryz.prog Tryz.f3 (LawOut w0)) ⟨#[.string q, .slice a n cn, .slice b m cm, .slice y p cp, x 4, x 5, x 6, x 7, x 8, x 9, x 10, x 11, .map (some bD), .map (some bF), x 14, x 15, x 16, v17, v18, v19, v20, v21, x 22, v23, x 24, x 25, x 26, x 27, .slice vo l vc, .slice vo2 l2 vc2, x 30, x 31, .bool (anyP f (qdir q) S), x 33, x 34, x 35, x 36, x 37, x 38, x 39, x 40, x 41, x 42, x 43, x 44, x 45, x 46, x 47, x 48, x 49, x 50, x 51, x 52, x 53, x 54, x 55, x 56, x 57, x 58, x 59, x 60, x 61, x 62, x 63, x 64, x 65, x 66, x 67, x 68, x 69, x 70, x 71, x 72, x 73, x 74, x 75, x 76, x 77, x 78, x 79, x 80, x 81, x 82, x 83, x 84, x 85, x 86, x 87, x 88, x 89, x 90, x 91, x 92, x 93, x 94, x 95, x 96, x 97, x 98, x 99, x 100, x 101, x 102, x 103, x 104, x 105, x 106, x 107, x 108, x 109, x 110, x 111, x 112, x 113, x 114, x 115, x 116, x 117, x 118, x 119, x 120, x 121, x 122, x 123, x 124, x 125, x 126, x 127, x 128, x 129, x 130, x 131, x 132, x 133, x 134, x 135, x 136, x 137, x 138, x 139, x 140, x 141, x 142, x 143, x 144, x 145, x 146, x 147, x 148, x 149, x 150, x 151, x 152, x 153, x 154, x 155, x 156, x 157, x 158, x 159, x 160, x 161, x 162, x 163, x 164, x 165, x 166, x 167, x 168, x 169, x 170, x 171, x 172, x 173, x 174, x 175, x 176, x 177, x 178, x 179, x 180, x 181, x 182, x 183, x 184, x 185, x 186, x 187, x 188, x 189, x 190, x 191, x 192, x 193, x 194, x 195, x 196, x 197, x 198, x 199, x 200, x 201, x 202, x 203, x 204, x 205, x 206, x 207, x 208, x 209, x 210, x 211, x 212, x 213, x 214, x 215, x 216, x 217, x 218, x 219, x 220, x 221, x 222, x 223, x 224, x 225, x 226, x 227, x 228, x 229, x 230, x 231, x 232, x 233, x 234, x 235, x 236, x 237, x 238, x 239, x 240, x 241, x 242, x 243, x 244, x 245, x 246, x 247, x 248, x 249, x 250, x 251, x 252, x 253, x 254, x 255, x 256, x 257, x 258, x 259, x 260, x 261, x 262, x 263, x 264, x 265, x 266, x 267, x 268, x 269, x 270, x 271, x 272, x 273, x 274, x 275, x 276, x 277, x 278, x 279, x 280, x 281, x 282, x 283, x 284, x 285, x 286, x 287, x 288, x 289, x 290, x 291, x 292, x 293, x 294, x 295, x 296, x 297, x 298, x 299, x 300, x 301, x 302, x 303, x 304, x 305, x 306, x 307, x 308, x 309, x 310, x 311, x 312, x 313, x 314, x 315, x 316, x 317, x 318, x 319, x 320, x 321, x 322, x 323, x 324, x 325, x 326, x 327, x 328, x 329, x 330, x 331, x 332, x 333, x 334, x 335, x 336, x 337, x 338, x 339, x 340, x 341, x 342, x 343, x 344], []⟩ wb := by
  have ld1 := run_set_len (P := Tryz.prog) (t := 35) 3 Tryz.underlying35 (by kernel_rfl) hD hM.ld.nodup hM.ld.mem
  have ld2 := run_set_len (P := Tryz.prog) (t := 35) 3 Tryz.underlying35 (by kernel_rfl) hE hM.le.nodup hM.le.mem
  rw [hM.ld.len] at ld1
  rw [hM.le.len] at ld2
  have HM := Lib.hid hM
  have HD := Lib.hid hD
  have HE := Lib.hid hE
  have HK := Lib.hid hK
  have HK2 := Lib.hid hK2
  have Hch := Lib.hid hch
  have HR := Lib.hid hR
  have HC := Lib.hid hC
  have HA := Lib.hid hA
  have Hf := Lib.hid hf
  clear hM hD hE hK hK2 hch hR hC hA hf
  conv => arg 2; whnf
  go_wp2_with fail
  go_loop [38] (fun i => ∃ k : Nat, k ≤ l ∧ i = .int .i64 k) (fun i => l - (intOf i).toNat)
  case atStart => exact ⟨0, by omega, rfl⟩
  case round =>
    obtain ⟨k, hk, rfl⟩ := hrel
    by_cases hlt : k < l
    · obtain ⟨g, s, hvo, hcell, hget⟩ := look HM.out.ld HD.out HK.out k hlt
      subst hvo
      have hx : (k : Int) < (l : Int) := by omega
      have hx0 : (0 : Int) ≤ (k : Int) := by omega
      go_wp2_with fail
      go_round
      case rel => exact ⟨k + 1, by omega, by go_num⟩
      case measure => simp [intOf]; omega
    obtain rfl : k = l := by omega
    have hx : ¬ ((k : Nat) : Int) < (k : Int) := by omega
    go_wp2_with fail
    clear hx hlt
    go_loop [39] (fun i => ∃ k : Nat, k ≤ l2 ∧ i = .int .i64 k) (fun i => l2 - (intOf i).toNat)
    case atStart => exact ⟨0, by omega, rfl⟩
    case round =>
      obtain ⟨j, hj, rfl⟩ := hrel
      by_cases hlt : j < l2
      · obtain ⟨g, s, hvo, hcell, hget⟩ := look HM.out.le HE.out HK2.out j hlt
        subst hvo
        have hx : (j : Int) < (l2 : Int) := by omega
        have hx0 : (0 : Int) ≤ (j : Int) := by omega
        go_wp2_with fail
        go_round
        case rel => exact ⟨j + 1, by omega, by go_num⟩
        case measure => simp [intOf]; omega
      obtain rfl : j = l2 := by omega
      have hx : ¬ ((j : Nat) : Int) < (j : Int) := by omega
      rcases HA.out with ⟨hS, rfl, rfl, rfl, rfl, rfl⟩ | ⟨rfl, rfl, rfl, rfl, rfl, rfl⟩
      · rcases HR.out with h0 | ⟨g, o, rfl, hR1⟩
        · omega
        have hc := hR1 S hS
        unfold strAt at hc
        clear hR1
        obtain ⟨hb1, hb2, hb3, hb4, hb5⟩ := HC.out S hS
        have Hb1 := Lib.hid hb1
        have hit := itoa_size S (by omega)
        rw [hb2]
        have hy0 : (0 : Int) ≤ (S : Int) := by omega
        have hy1 : (S : Int) < (n : Int) := by omega
        have hsz := Hf.out S hS
        clear hb1 hb5 hb2
        unfold outS
        cases hqe : ((f S).toList == q.toList)
        · have hqn := (toList_beq hqe).2 rfl
          have hdq := decide_eq_false hqn
          clear hqn
          go_wp2_with fail
          refine (itoa7 S wb (by omega)).mono ?_
          rintro e1 w1 ⟨rfl, hc1⟩
          obtain ⟨cap, w2, hcv, hcap, hcm, hc2, hs2, hr2⟩ := conv_new (itoa S) (by omega) w1
          have h12 := hc1.trans hc2 (fun _ _ h => h)
          have hc3 := h12.cell hc (fun h => h)
          have heq := eq12 (c S).1 (some ⟨w1.heap.size, 0, none⟩) (itoa S).size (c S).2.2 cap (bt (itoa S)) w2 (Hb1.out.kept h12 (fun _ _ _ h => h)) hr2 (by omega) hb3 hcap hb4 hcm
          have Heq := Lib.hid heq
          have H12 := Lib.hid h12
          clear hc1 hc2 hr2 heq h12 hc
          go_wp2_with fail
          refine Heq.out.mono ?_
          rintro e1 w3 ⟨rfl, hc4⟩
          have hc := hc4.cell hc3 (fun h => h)
          have H13 := Lib.hid ((Hch.out.trans H12.out (fun _ _ h => h)).trans hc4 (fun _ _ h => h))
          clear hc4 hc3
          go_wp2_with fail
          go_ret
          exact ⟨rfl, H13.out⟩
        · have hqn := (toList_beq hqe).1 rfl
          have hdq := decide_eq_true hqn
          clear hqn
          go_wp2_with fail
          refine (itoa7 S wb (by omega)).mono ?_
          rintro e1 w1 ⟨rfl, hc1⟩
          obtain ⟨cap, w2, hcv, hcap, hcm, hc2, hs2, hr2⟩ := conv_new (itoa S) (by omega) w1
          have h12 := hc1.trans hc2 (fun _ _ h => h)
          have hc3 := h12.cell hc (fun h => h)
          have heq := eq12 (c S).1 (some ⟨w1.heap.size, 0, none⟩) (itoa S).size (c S).2.2 cap (bt (itoa S)) w2 (Hb1.out.kept h12 (fun _ _ _ h => h)) hr2 (by omega) hb3 hcap hb4 hcm
          have Heq := Lib.hid heq
          have H12 := Lib.hid h12
          clear hc1 hc2 hr2 heq h12 hc
          go_wp2_with fail
          refine Heq.out.mono ?_
          rintro e1 w3 ⟨rfl, hc4⟩
          have hc := hc4.cell hc3 (fun h => h)
          have H13 := Lib.hid ((Hch.out.trans H12.out (fun _ _ h => h)).trans hc4 (fun _ _ h => h))
          clear hc4 hc3
          go_wp2_with fail
          go_ret
          exact ⟨rfl, H13.out⟩
      · have hnil : (binOp .eql 27 (.slice none 0 0) (.slice none 0 0)).run Tryz.prog wb = .ok (.bool true) wb := by kernel_rfl
        cases han : anyP f (qdir q) S
        · simp only [Bool.false_eq_true, if_false]
          go_wp2_with fail
          go_ret
          exact ⟨rfl, Hch.out⟩
        · simp only [if_true]
          go_wp2_with fail
          go_ret
          exact ⟨rfl, Hch.out⟩
end Go.Proofs.YtambbfgmbfamkaaGreatDoor
