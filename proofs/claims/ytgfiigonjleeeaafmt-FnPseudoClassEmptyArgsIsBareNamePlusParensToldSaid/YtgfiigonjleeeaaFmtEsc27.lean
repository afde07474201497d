/-
  Proved: contract of the css printer's printWithEscape at every rune that a string of bytes holds. No statement of the seat stands here.
-/
import Derived.Test.YtgfiigonjleeeaaFmtHexB
import Derived.Test.YtgfiigonjleeeaaFmtHexC
import Derived.Test.YtgfiigonjleeeaaFmtHexD
namespace Go.Proofs.YtgfiigonjleeeaaFmt
open Go.RowKit Go.ChangeAt
open Go.Extern.Stop Go.Stop Go.Extern
set_option linter.unusedSimpArgs false
set_option linter.unusedVariables false
set_option maxRecDepth 100000
theorem put_any (F : Interp) (B b c k : Nat) (hk : k ≤ 2) (m a : Bool) (vo : Option Addr) (out : List UInt8) (rem : ByteArray) (w : World) (hc : c ≤ 1114111) (hv : ¬ (55296 ≤ c ∧ c ≤ 57343)) (hF : F.answers w.tape) (hS : HexOk F) (h : Pr B b m a vo out w) (ho : out.length ≤ 140000000000) :
    Calls Tryf.prog 27 #[.pointer (some ⟨b, 0, none⟩), .int .i32 c, .int .u8 k, .string rem, .bool false] w (Wrt B b m a vo (out ++ escT F k c rem) w) := by
  have h3 : k = 0 ∨ k = 1 ∨ k = 2 := by omega
  rcases h3 with rfl | rfl | rfl
  · exact put_none B b c m a vo out rem w hc h ho
  · cases hx : isHex c
    · have e : escT F 1 c rem = 92 :: Lib.encodeRune (c : Int) := by unfold escT; rw [if_neg (by decide), if_pos ⟨rfl, hx⟩]
      rw [e]
      exact put_slash B b c m a vo out rem w hc hx h ho
    · have e : escT F 1 c rem = hexT F c rem := by unfold escT; rw [if_neg (by decide), if_neg (by rw [hx]; simp)]
      rw [e]
      rcases hex_cases c hx with hx | hx | hx
      · exact put_hex_dig F B b c m a vo out rem w hc hv hx hF (hS.size c hc) h ho
      · exact put_hex_low F B b c m a vo out rem w hc hv hx hF (hS.size c hc) h ho
      · exact put_hex_upp F B b c m a vo out rem w hc hv hx hF (hS.size c hc) h ho
  · have e : escT F 2 c rem = hexT F c rem := by unfold escT; rw [if_neg (by decide), if_neg (by simp)]
    rw [e]
    exact put_hex_two F B b c m a vo out rem w hc hv hF (hS.size c hc) h ho
theorem rune_valid (s : ByteArray) (pos : Nat) : ¬ (55296 ≤ (Utf8.decode s pos).1 ∧ (Utf8.decode s pos).1 ≤ 57343) := by
  simp only [Utf8.decode]
  repeat' split
  all_goals (simp only [Utf8.runeError, Utf8.valid, Bool.and_eq_true, Bool.or_eq_true, decide_eq_true_eq] at *)
  all_goals omega
end Go.Proofs.YtgfiigonjleeeaaFmt
