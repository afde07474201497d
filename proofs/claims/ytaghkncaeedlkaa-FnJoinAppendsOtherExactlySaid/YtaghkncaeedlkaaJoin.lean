/-
  Proved: Fork and Join of a timer (the lock by the library's contracts). No statement of the seat stands here.
-/
import Derived.Test.YtaghkncaeedlkaaRun
import Derived.Conc.MuLone
import Derived.Defers
import Derived.Deep.RegionHeld3
import Derived.Outline
namespace Go.Proofs.Ytaghkncaeedlkaa
open Go.RowKit Go.ChangeAt Go.MuLone
set_option linter.unusedSimpArgs false
set_option linter.unusedVariables false
abbrev muLink : Go.Conc.Locks.MuLink := { lock := 27, unlock := 28, ilock := 29, iunlock := 30, lockSlow := 35, unlockSlow := 38, disable := 31, enable := 33, acquire := 34, relMerge := 36, cas32 := 32, add32 := 37, tMutex := 36, tIMutex := 34, tPMutex := 57, tPIMutex := 58, tPI32 := 60, tUP := 62, tNoCopy := 31, tU32 := 32 }
theorem muLib : Go.Conc.Locks.MuLib Try.prog muLink :=
  ⟨Try.func27, Try.func28, Try.func29, Try.func30, Try.func31, Try.func33, Try.func34, Try.func36, Try.func32, Try.func37, Try.underlying34, Try.runUnderlying34, Try.sizeOf34, Try.isAgg34, Try.zeroValue34, Try.underlying36, Try.runUnderlying36, Try.sizeOf36, Try.isAgg36, Try.zeroValue36, Try.underlying57, Try.runUnderlying57, Try.sizeOf57, Try.isAgg57, Try.zeroValue57, Try.underlying58, Try.runUnderlying58, Try.sizeOf58, Try.isAgg58, Try.zeroValue58, Try.underlying60, Try.runUnderlying60, Try.sizeOf60, Try.isAgg60, Try.zeroValue60, Try.underlying62, Try.runUnderlying62, Try.sizeOf62, Try.isAgg62, Try.zeroValue62, Try.underlying31, Try.runUnderlying31, Try.sizeOf31, Try.isAgg31, Try.zeroValue31, Try.underlying21, Try.runUnderlying21, Try.sizeOf21, Try.isAgg21, Try.zeroValue21, by kernel_rfl⟩

theorem fork_nil (w : World) : Calls Try.prog 16 #[.pointer none] w fun e w' => e = .returned (.pointer none) ∧ w = w' := by
  go_enter Try.func16, Try.ntmps16
  go_wp2
  go_ret
  exact ⟨rfl, rfl⟩
theorem fork_any (a : Addr) (w : World) : Calls Try.prog 16 #[.pointer (some a)] w fun e w' => e = .returned (.pointer (some ⟨w.heap.size, 0, none⟩)) ∧ w' = w.alloc (.cells #[.slice none 0 0, .int .i32 0, .int .u32 0] 38) := by
  go_enter Try.func16, Try.ntmps16
  go_wp2
  go_ret
  exact ⟨rfl, rfl⟩
theorem join_nil1 (o : Option Addr) (w : World) : Calls Try.prog 17 #[.pointer none, .pointer o] w fun e w' => e = .returned (.tuple #[]) ∧ w = w' := by
  go_enter_defers Try.func17, Try.ntmps17
  go_wp2
  exact ⟨_, results_none rfl _ _ _, rfl, rfl⟩
theorem join_nil2 (a : Addr) (w : World) : Calls Try.prog 17 #[.pointer (some a), .pointer none] w fun e w' => e = .returned (.tuple #[]) ∧ w = w' := by
  go_enter_defers Try.func17, Try.ntmps17
  go_wp2
  exact ⟨_, results_none rfl _ _ _, rfl, rfl⟩

theorem rec_oneAll (rs : List Rec) : ∀ u ∈ cellsOf rs, u.oneCell' = true := by
  intro u hu
  simp only [cellsOf, List.mem_flatMap] at hu
  obtain ⟨r, _, h⟩ := hu
  exact rec_one r u h

theorem join_close {b : Nat} {ao : Option Addr} {cap : Nat} {rs news : List Rec} {w w1 wd w2 : World} (hT : Timer w b ao cap rs) (hC : Chg (fun k => k = b) w w1) (hd : Chg (fun k => k = b) w1 wd) {vo' : Option Addr} {vc' : Nat}
    (hown : w2.ownsRow 0 56 5 (.slice vo' (rs.length + news.length) vc') (rs.length + news.length) (cellsOf rs ++ cellsOf news)) (hg : Chg (InRow ao) wd w2) (hf : vo' = ao ∨ vo' = some ⟨wd.heap.size, 0, none⟩)
    (hb : w2.heap[b]? = some (.cells #[.slice ao rs.length cap, .int .i32 1, .int .u32 0] 38 (0, 0))) :
    Grown1 b ao (rs ++ news) w ((w2.setCell ⟨b, 0, none⟩ (.slice vo' (rs.length + news.length) vc')).setCell ⟨b, 1, none⟩ (.int .i32 0)) := by
  have hlt := heap_lt hT.blk
  have hsz1 := hC.size
  have hszd := hd.size
  have hsep : ∀ x, vo' = some x → x.block ≠ b := by
    intro x hx
    rcases hf with h | h
    · exact hT.sep x (h ▸ hx)
    · rw [h] at hx
      injection hx with hx
      subst hx
      show wd.heap.size ≠ b
      omega
  have e1 : Chg (foot b ao) w w1 := hC.mono (fun _ _ h => .inl h)
  have e2 : Chg (foot b ao) w1 wd := hd.mono (fun _ _ h => .inl h)
  have e3 : Chg (foot b ao) wd w2 := hg.mono (fun _ _ h => .inr h)
  have h1 : Chg (foot b ao) w w2 := (e1.trans e2 fun _ _ h => h).trans e3 fun _ _ h => h
  have hl : (rs ++ news).length = rs.length + news.length := by simp
  refine ⟨(h1.setCell (p := ⟨b, 0, none⟩) (fun _ => .inl rfl) _).setCell (p := ⟨b, 1, none⟩) (fun _ => .inl rfl) _, vo', vc', ⟨?_, ?_, hsep⟩, ?_⟩
  · rw [hl]
    have := heap_setCell (heap_setCell hb 0 (.slice vo' (rs.length + news.length) vc')) 1 (.int .i32 0)
    simpa using this
  · have h2 := ((Chg.refl (fun k => k = b) w2).setCell (p := ⟨b, 0, none⟩) (fun _ => rfl) (.slice vo' (rs.length + news.length) vc')).setCell (p := ⟨b, 1, none⟩) (fun _ => rfl) (.int .i32 0)
    rw [cellsOf_append, hl]
    refine h2.owns hown ?_
    intro k hk
    cases vo' with
    | none => simp [Value.ownBlock] at hk
    | some x =>
      simp [Value.ownBlock] at hk
      subst hk
      exact hsep x rfl
  · rcases hf with h | h
    · exact .inl h
    · exact .inr ⟨_, h, by omega⟩

theorem join_any (b b2 : Nat) (ao ao2 : Option Addr) (cap cap2 : Nat) (rs rs2 : List Rec) (w : World) (hT : Timer w b ao cap rs) (hT2 : Timer w b2 ao2 cap2 rs2) (hne : b ≠ b2)
    (hx2 : ∀ x, ao2 = some x → x.block ≠ b) (hn : rs.length ≤ 2097152) (hn2 : rs2.length ≤ 2097152) :
    Calls Try.prog 17 #[.pointer (some ⟨b, 0, none⟩), .pointer (some ⟨b2, 0, none⟩)] w fun e w' => e = .returned (.tuple #[]) ∧ Grown1 b ao (rs ++ rs2) w w' := by
  obtain ⟨i0, hi, hz0, hz1, hz2⟩ := info_parts info56
  have hc1 := cell_of_heap hT.blk 1
  have hf1 := frozen_of_heap hT.blk 1
  simp at hc1
  have HT := Lib.hid hT; have HT2 := Lib.hid hT2; have Hx2 := Lib.hid hx2; have Hne := Lib.hid hne
  clear hT hT2 hx2 hne
  go_enter_defers Try.func17, Try.ntmps17
  go_wp2_with (go_at_call 27; refine (lock_free muLib ⟨b, 1, none⟩ _ hc1 hf1).mono ?_; rintro e w1 ⟨rfl, hw1⟩; have Hw1 := Lib.hid hw1; clear hw1)
  clear hc1 hf1
  have hw1 := Hw1.out
  have hC : Chg (fun k => k = b) w w1 := by rw [hw1]; exact (Chg.refl (fun k => k = b) w).setCell (p := ⟨b, 1, none⟩) (fun _ => rfl) _
  have hb1 : w1.heap[b]? = some (.cells #[.slice ao rs.length cap, .int .i32 1, .int .u32 0] 38 (0, 0)) := by rw [hw1]; exact heap_setCell HT.out.blk 1 _
  have hb2 := hC.heap HT2.out.blk (fun h => Hne.out h.symm)
  have hown := hC.owns HT.out.own (fun k hk h => by
    cases ao with
    | none => simp [Value.ownBlock] at hk
    | some x => simp [Value.ownBlock] at hk; exact HT.out.sep x rfl (hk.trans h))
  have hown2 := hC.owns HT2.out.own (fun k hk h => by
    cases ao2 with
    | none => simp [Value.ownBlock] at hk
    | some x => simp [Value.ownBlock] at hk; exact Hx2.out x rfl (hk.trans h))
  clear hw1 Hw1
  have d1 := cell_of_heap hb1 0
  have d2 := cell_of_heap hb2 0
  simp at d1 d2
  have HC := Lib.hid hC; have Hown := Lib.hid hown; have Hown2 := Lib.hid hown2; have Hb1 := Lib.hid hb1
  have Hnil : Hid (ao2 = none → rs2.length = 0 ∧ cap2 = 0) := fun h => by
    rcases ownsRow_addr hown2 with ⟨_, h1, h2, _⟩ | ⟨g, h1, _⟩
    · exact ⟨h1, h2⟩
    · rw [h] at h1; cases h1
  have Hsrc : Hid (∀ x, ao2 = some x → ∀ j u, (cellsOf rs2)[j]? = some u → w1.drew.cell? (x.add j) = some u) := fun x hx j u hu => by
    rcases ownsRow_addr hown2 with ⟨h1, _⟩ | ⟨g, h1, _⟩
    · rw [hx] at h1; cases h1
    · rw [hx] at h1
      injection h1 with h1
      subst h1
      exact hown2.cells (g := g) (by rw [hx]; rfl) j u hu
  clear hC hown hown2 hb1 hb2
  have hdr : Chg Nowhere w1 w1.drew := (Chg.refl _ _).drew
  have Hdr := Lib.hid hdr
  clear hdr
  refine Code.wp_mono NoPanic.imp ?_
  go_region_law (refine step_append_fresh _ rfl (.tmp 21) (.tmp 25) 29 rfl 0 56 i0 _ 5 48 Try.underlying29 hi hz0 hz1 hz2 rfl (by decide) ao rs.length cap (cellsOf rs) (by simp [Act.eval, Act.put]) (Hdr.out.owns Hown.out fun _ _ h => h) ao2 rs2.length cap2 (cellsOf rs2) (by simp [Act.eval, Act.put]) (cellsOf_length _) (fun h => Hnil.out h) (fun x hx j u hu => Hsrc.out x hx j u hu) (rec_oneAll _) (by unfold maxLen; omega) (by omega) (by omega) ?_; intro vo' vc' w2 hown3 hg3 hf3; have hb3 := hg3.heap (Hdr.out.heap Hb1.out fun h => h) (fun ⟨x, h1, h2⟩ => HT.out.sep x h1 h2); have c3 := cell_of_heap hb3 0; have f3 := frozen_of_heap hb3 0; simp only [List.getElem?_toArray, List.getElem?_cons_zero] at c3)
  all_goals (
    refine NoPanic.normal ?_
    refine leaves_cons (f := 28) (args := #[.pointer (some ⟨b, 1, none⟩)]) (by simp) (by simp [go_sem]) ?_
    refine (unlock_deferred muLib ⟨b, 1, none⟩ .returning _ ?_ ?_).mono ?_
    · rw [cell_of_heap (heap_setCell hb3 0 _)]; rfl
    · exact frozen_of_heap (heap_setCell hb3 0 _) 1
    rintro e u' w3 ⟨rfl, rfl, hw3⟩
    subst hw3
    exact ⟨_, results_none rfl _ _ _, rfl, join_close HT.out HC.out (Hdr.out.mono (fun _ _ h => h.elim)) hown3 hg3 hf3 hb3⟩)

end Go.Proofs.Ytaghkncaeedlkaa
