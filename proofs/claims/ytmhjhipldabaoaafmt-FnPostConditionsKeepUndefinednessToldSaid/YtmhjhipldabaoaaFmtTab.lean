/-
  Proved: the table of net/url off 'laid'; what the frames of the three laws share. No statement of the seat stands here.
-/
import Derived.Test.YtmhjhipldabaoaaFmtCards
import Derived.Test.YtmhjhipldabaoaaFmtTie
import Derived.Test.YtmhjhipldabaoaaFmtLaws
import Derived.WalkKit
import Derived.ProofKit
import Derived.OpenShut
import Derived.Deep.DeepHandedRow
import Derived.Lib.LaidTab
import Derived.Stop.JoinedAt
import Derived.Stop.JoinedTold
import Derived.Deep.DeepWitnessRef
import Derived.SevenTiedAt
namespace Go.Proofs.YtmhjhipldabaoaaFmt
open Go.ChangeShapes Go.WideShapes Go.ChangeAt Go.RowKit
open Go.Extern.Stop Go.Stop Go.Extern
open Go.ChangeMaps (open_string shut_string)

theorem own : ownKnob Tryf.prog.godebug = none := by kernel_rfl
theorem laidOut : laidOutB Tryf.prog = true := by kernel_rfl
theorem stops : Tryf.pinned.checked.prog.stops = ["fmt.Sprintf"] := by kernel_rfl
theorem stopKnobs : Tryf.pinned.checked.prog.stopKnobs = [] := by kernel_rfl
theorem quietAt (os : Os) : Stop.quiet Tryf.pinned.checked.prog os := by
  intro k hk
  rw [stopKnobs] at hk
  cases hk
theorem gTab : Tryf.prog.globalNamed "net/url.table" = some 0 := by kernel_rfl
theorem gTabType : (Tryf.prog.globals[0]?).map (·.type) = some 79 := by kernel_rfl
theorem cells79 : Tryf.prog.cellsOf 79 = 256 := by kernel_rfl
theorem cells61 : Tryf.prog.cellsOf 61 = 1 := by kernel_rfl
def urlZs : List Int := [0, 0, 0, 0, 0, 0, 0, 0, 0, 0, 0, 0, 0, 0, 0, 0, 0, 0, 0, 0, 0, 0, 0, 0, 0, 0, 0, 0, 0, 0, 0, 0, 0, 76, 12, 0, 95, 0, 95, 12, 76, 76, 76, 95, 93, 127, 127, 65, 255, 255, 255, 255, 255, 255, 255, 255, 255, 255, 79, 93, 12, 95, 12, 64, 67, 255, 255, 255, 255, 255, 255, 127, 127, 127, 127, 127, 127, 127, 127, 127, 127, 127, 127, 127, 127, 127, 127, 127, 127, 127, 127, 12, 0, 12, 0, 127, 0, 255, 255, 255, 255, 255, 255, 127, 127, 127, 127, 127, 127, 127, 127, 127, 127, 127, 127, 127, 127, 127, 127, 127, 127, 127, 127, 0, 0, 0, 127, 0, 0, 0, 0, 0, 0, 0, 0, 0, 0, 0, 0, 0, 0, 0, 0, 0, 0, 0, 0, 0, 0, 0, 0, 0, 0, 0, 0, 0, 0, 0, 0, 0, 0, 0, 0, 0, 0, 0, 0, 0, 0, 0, 0, 0, 0, 0, 0, 0, 0, 0, 0, 0, 0, 0, 0, 0, 0, 0, 0, 0, 0, 0, 0, 0, 0, 0, 0, 0, 0, 0, 0, 0, 0, 0, 0, 0, 0, 0, 0, 0, 0, 0, 0, 0, 0, 0, 0, 0, 0, 0, 0, 0, 0, 0, 0, 0, 0, 0, 0, 0, 0, 0, 0, 0, 0, 0, 0, 0, 0, 0, 0, 0, 0, 0, 0, 0, 0, 0, 0, 0, 0, 0, 0, 0, 0, 0, 0, 0]
set_option maxRecDepth 100000 in
theorem url_data : (Rows.laid_net_url_table : DataW Unit) = Lib.tabData .u8 urlZs := by rfl
set_option maxRecDepth 100000 in
theorem url_len : urlZs.length = 256 := by rfl
theorem url_hex : ∀ c : Fin 256, (bits .and .u8 (urlZs.getD c.val 0) 128 != 0) = isHex c.val := by decide +kernel
/-- What the row's list gives: the table of net/url. -/
theorem hexTab {W : World} (h : laidMetH Tryf.prog [("net/url.table", Rows.laid_net_url_table)] W) : HexTab W := by
  have ht : Lib.TabIs Tryf.prog W "net/url.table" .u8 urlZs := Lib.tabIs_of_head (rest := []) gTab gTabType Tryf.underlying79 Tryf.underlying61 cells61 cells79 (url_data ▸ h)
  intro c hc
  exact ⟨_, ht.cell gTab c (by rw [url_len]; exact hc), url_hex ⟨c, hc⟩⟩
theorem heap_pos {W : World} (h : HexTab W) : 0 < W.heap.size := by
  obtain ⟨v, h1, _⟩ := h 0 (by decide)
  exact World.block_lt_of_cell? W _ h1

/-- A world for the witness: the settled one, the table (block 0) holding what its initialiser lays. -/
noncomputable def laidWorld (os : Os) : World :=
  { World.holding Tryf.prog os ⟨#[], #[], []⟩ with heap := (World.holding Tryf.prog os ⟨#[], #[], []⟩).heap.modify 0 fun
      | .cells _ t frozen => .cells (urlZs.map (Value.int .u8)).toArray t frozen
      | o => o }
set_option maxRecDepth 100000 in
theorem laid_met (os : Os) (args : Array Value) : laidMet Tryf.prog [("net/url.table", Rows.laid_net_url_table)] ((laidWorld os).forCall (fun _ _ => 0) ⟨#[], args, []⟩).memory :=
  laidMet_of_run' 8 (by kernel_rfl) (by kernel_rfl)
theorem u8_nat {x : Int} (h : (Lit.int .u8 x).wf = true) : ∃ st : Nat, st < 256 ∧ x = st := by
  have e1 : IntKind.u8.min = 0 := rfl
  have e2 : IntKind.u8.max = 255 := rfl
  simp [Lit.wf, e1, e2] at h
  exact ⟨x.toNat, by omega, by omega⟩
end Go.Proofs.YtmhjhipldabaoaaFmt
