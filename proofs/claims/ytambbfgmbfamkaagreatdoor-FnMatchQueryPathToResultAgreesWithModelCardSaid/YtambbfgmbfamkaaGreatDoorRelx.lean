/-
  Proved: the contract of the mock file system's Rel at '/out' and a clean path behind '/out/'. No statement of the seat stands here.
-/
import Derived.Test.YtambbfgmbfamkaaGreatDoorRelw
namespace Go.Proofs.YtambbfgmbfamkaaGreatDoor
open Go.RowKit Go.ChangeAt
set_option linter.unusedSimpArgs false
set_option linter.unusedVariables false
set_option maxRecDepth 100000
def RelIs (r : ByteArray) (w : World) (e : Ending) (w' : World) : Prop := e = .returned (.tuple #[.string r, .bool true]) ∧ Chg Nowhere w w'
theorem chg_below {w w' : World} (h : Below w.heap.size w w') : Chg Nowhere w w' := by
  refine ⟨h.os, h.tape, h.output, h.size, fun k hk _ => h.block k hk⟩
set_option maxHeartbeats 4000000 in
theorem rel88' (m : Nat) (B N T O r : ByteArray) (w : World) (hk : w.cell? ⟨m, 4, none⟩ = some (.int .u8 0)) (hC : Cut B N ⟨#[]⟩ T O r)
    (hcB : ∀ w, Calls Tryz.prog 27 #[.string B] w fun e w' => e = .returned (.string B) ∧ Below w.heap.size w w')
    (hcT : ∀ w, Calls Tryz.prog 27 #[.string T] w fun e w' => e = .returned (.string T) ∧ Below w.heap.size w w')
    (hne : (B.toList == T.toList) = false) (hdot : (B.toList == [46]) = false)
    (hB : B.size = 4) (hT : T.size = 5 + r.size) (hr : r.size ≤ 1048576) (hb0 : bt B 0 = 47) (ht0 : bt T 0 = 47) (hn : N.size = 3) (hNe : (N.toList == []) = false) :
    Calls Tryz.prog 88 #[.pointer (some ⟨m, 0, none⟩), .string B, .string T] w (RelIs r w) := by
  have HC := Lib.hid hC
  have HB := Lib.hid hcB
  have HT := Lib.hid hcT
  have hlt := World.block_lt_of_cell? w _ hk
  have HK := Lib.hid hk
  clear hC hcB hcT
  have hB4 : ((B.size : Nat) : Int) = 4 := by omega
  have hT4 : (0 : Int) < (T.size : Int) := by omega
  have hbx := bt_eq B 0 (by omega)
  have hT5 : 0 < T.size := by omega
  have htx := bt_eq T 0 hT5
  rw [hb0] at hbx
  rw [ht0] at htx
  clear hb0 ht0
  have hT6 : ¬ (T.size : Int) ≤ 0 := by omega
  have hT7 : decide ((T.size : Int) > 0) = true := decide_eq_true (by omega)
  have hT8 : T.size > 0 := by omega
  have HTS := Lib.hid hT
  clear hT
  go_enter Tryz.func88, Tryz.ntmps88
  go_wp2_with fail
  refine (HB.out _).mono ?_
  rintro e1 w1 ⟨rfl, hb1⟩
  have h1 := chg_below hb1
  have H1 := Lib.hid h1
  clear hb1 h1
  go_wp2_with fail
  refine (HT.out _).mono ?_
  rintro e2 w2 ⟨rfl, hb2⟩
  have h2 := H1.out.trans (chg_below hb2) (fun _ _ h => h)
  have H2 := Lib.hid h2
  have hk2 := h2.cell HK.out (fun h => h)
  clear hb2 h2
  go_wp2_with fail
  go_quiet (fail)
  go_wp2_with fail
  clear hk2 hT7 hT8 hT6 hbx htx hT4 hB4
  have hEE : ((⟨#[]⟩ : ByteArray).toList == (⟨#[]⟩ : ByteArray).toList) = true := beq_iff_eq.2 rfl
  go_loopw [1, 2] (fun b t wr => ((b = .string B ∧ t = .string T) ∨ (b = .string N ∧ t = .string O) ∨ (b = .string ⟨#[]⟩ ∧ t = .string r)) ∧ Chg Nowhere w wr) (fun b _ _ => match b with | .string x => x.size | _ => 0)
  case atStart => exact ⟨.inl ⟨rfl, rfl⟩, H2.out.drewN _⟩
  case round =>
    obtain ⟨hst, hch⟩ := hrel
    rename World => wr
    have Hch := Lib.hid hch
    clear hch
    rcases hst with ⟨rfl, rfl⟩ | ⟨rfl, rfl⟩ | ⟨rfl, rfl⟩
    · go_wp2_with fail
      refine (HC.out.a _).mono ?_
      rintro e1 w3 ⟨rfl, hc3⟩
      have H3 := Lib.hid (Hch.out.trans hc3 (fun _ _ h => h))
      clear hc3
      go_wp2_with fail
      refine (HC.out.b _).mono ?_
      rintro e1 w4 ⟨rfl, hc4⟩
      have H4 := Lib.hid (H3.out.trans hc4 (fun _ _ h => h))
      clear hc4
      go_wp2_with fail
      go_roundw
      case rel => exact ⟨.inr (.inl ⟨rfl, rfl⟩), H4.out⟩
      case measure => show N.size < B.size; omega
    · go_wp2_with fail
      refine (HC.out.c _).mono ?_
      rintro e1 w3 ⟨rfl, hc3⟩
      have H3 := Lib.hid (Hch.out.trans hc3 (fun _ _ h => h))
      clear hc3
      go_wp2_with fail
      refine (HC.out.d _).mono ?_
      rintro e1 w4 ⟨rfl, hc4⟩
      have H4 := Lib.hid (H3.out.trans hc4 (fun _ _ h => h))
      clear hc4
      go_wp2_with fail
      go_roundw
      case rel => exact ⟨.inr (.inr ⟨rfl, rfl⟩), H4.out⟩
      case measure => show 0 < N.size; omega
    · go_wp2_with fail
      refine (HC.out.e _).mono ?_
      rintro e1 w3 ⟨rfl, hc3⟩
      have H3 := Lib.hid (Hch.out.trans hc3 (fun _ _ h => h))
      clear hc3
      go_wp2_with fail
      refine (HC.out.f _).mono ?_
      rintro e1 w4 ⟨x, y, rfl, hc4, hxe⟩
      have h4 := H3.out.trans hc4 (fun _ _ h => h)
      have H4 := Lib.hid h4
      have hk4 := h4.cell HK.out (fun h => h)
      clear hc4 h4
      have hxi : x.toList.isEmpty = false := by
        cases hl : x.toList with
        | nil => rw [hl, ByteArray.toList_eq] at hxe; cases hxe
        | cons _ _ => rfl
      go_wp2_with fail
      go_ret2
      exact ⟨rfl, H4.out⟩
/-- Rel at '/out': the clean path behind '/out/' comes back. -/
theorem rel88 (m : Nat) (r : ByteArray) (w : World) (hk : w.cell? ⟨m, 4, none⟩ = some (.int .u8 0)) (h : Rel r.data.toList) (hs : r.size ≤ 1048576) :
    Calls Tryz.prog 88 #[.pointer (some ⟨m, 0, none⟩), .string outB, .string (outS ++ r)] w (RelIs r w) := by
  have hz : (outS ++ r).size = 5 + r.size := add_size _ _
  refine rel88' m outB outN (outS ++ r) (outH ++ r) r w hk (cut_ok r h hs) ?_ ?_ (out_ne r) (by rw [ByteArray.toList_eq]; rfl) rfl hz hs (by rfl) ?_ rfl (by rw [ByteArray.toList_eq]; rfl)
  · intro w
    have := Tryz.path_Clean outB w (by decide)
    rw [clean_base] at this
    exact this
  · intro w
    have := Tryz.path_Clean (outS ++ r) w (by omega)
    rw [clean_path r h] at this
    exact this
  · refine bt_list _ 0 47 ?_
    rw [out_list]
    rfl
end Go.Proofs.YtambbfgmbfamkaaGreatDoor
