/-
  Proved: contract of fmtEFG of Go's float formatting at the shortest 'g' form, all its ways in one. No condition; no statement of the seat stands here.
-/
import Derived.Test.YtmlgfhdjdmfdbaaDoorFtG
import Derived.Test.YtmlgfhdjdmfdbaaDoorFtI
import Derived.Test.YtmlgfhdjdmfdbaaDoorFtJ
namespace Go.Proofs.YtmlgfhdjdmfdbaaDoor
open Go.RowKit Go.ChangeAt Go.Sort
set_option linter.unusedSimpArgs false
set_option linter.unusedVariables false
set_option maxRecDepth 100000
/-- The text of the digits ds with the decimal point behind the first dp of them. -/
def txtG (neg : Bool) (ds : List UInt8) (dp : Int) : List UInt8 :=
  if dp ≤ -4 then txtE neg ds 45 (1 - dp).toNat
  else if 7 ≤ dp then txtE neg ds 43 (dp - 1).toNat
  else if dp ≤ 0 then signB neg ++ ([48, 46] ++ List.replicate (-dp).toNat (48 : UInt8) ++ ds)
  else if ds.length ≤ dp.toNat then signB neg ++ (ds ++ List.replicate (dp.toNat - ds.length) (48 : UInt8))
  else signB neg ++ (ds.take dp.toNat ++ [46] ++ ds.drop dp.toNat)
theorem fmt23 (w0 w : World) (vo : Option Addr) (L vc g : Nat) (out : List UInt8) (neg : Bool) (nd : Nat) (dp : Int) (ds : List UInt8) (hds : ds.length = nd) (h1 : 1 ≤ nd) (hnd : nd ≤ 32) (hb : -890 ≤ dp ∧ dp ≤ 890) (hL : L ≤ 1000) (hR : RowD w0 w vo L vc out g ds) :
    Calls Tryd.prog 26 #[.slice vo L vc, .bool neg, .slice (some ⟨g, 0, none⟩) 32 32, .int .i64 dp, .int .i64 nd, .int .i64 nd, .int .u8 103, .bool true] w (FmtOut w0 (out ++ txtG neg ds dp)) := by
  unfold txtG
  by_cases c1 : dp ≤ -4
  · rw [if_pos c1]
    obtain ⟨n1, rfl⟩ : ∃ n1, nd = n1 + 1 := ⟨nd - 1, by omega⟩
    have h := fmtE_neg w0 w vo L vc g out neg n1 (1 - dp).toNat ds hds hnd (by omega) (by omega) hL hR
    rw [show (1 : Int) - ((1 - dp).toNat : Int) = dp by omega] at h
    exact h
  · rw [if_neg c1]
    by_cases c2 : 7 ≤ dp
    · rw [if_pos c2]
      obtain ⟨n1, rfl⟩ : ∃ n1, nd = n1 + 1 := ⟨nd - 1, by omega⟩
      have h := fmtE_pos w0 w vo L vc g out neg n1 (dp - 1).toNat ds hds hnd (by omega) (by omega) hL hR
      rw [show ((dp - 1).toNat : Int) + 1 = dp by omega] at h
      exact h
    · rw [if_neg c2]
      by_cases c3 : dp ≤ 0
      · rw [if_pos c3]
        have h := fmtF3 w0 w vo L vc g out neg nd (-dp).toNat (nd + (-dp).toNat) (by omega) rfl ds hds h1 hnd hL hR
        rw [show -((-dp).toNat : Int) = dp by omega, List.take_of_length_le (by omega)] at h
        exact h
      · rw [if_neg c3]
        by_cases c4 : ds.length ≤ dp.toNat
        · rw [if_pos c4]
          have h := fmtF1 w0 w vo L vc g out neg nd dp.toNat (dp.toNat - ds.length) (by omega) (by omega) ds hds h1 hnd hL hR
          rw [show (dp.toNat : Int) = dp by omega, List.take_of_length_le (by omega)] at h
          exact h
        · rw [if_neg c4]
          have h := fmtF2 w0 w vo L vc g out neg nd dp.toNat (nd - dp.toNat) (by omega) (by omega) (by omega) (by omega) ds hds h1 hnd hL hR
          rw [show (dp.toNat : Int) = dp by omega, show (ds.drop dp.toNat).take (nd - dp.toNat) = ds.drop dp.toNat from List.take_of_length_le (by simp; omega)] at h
          exact h
end Go.Proofs.YtmlgfhdjdmfdbaaDoor
