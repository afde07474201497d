/-
  Proved: an append of a string, the new row's block told. No condition; no statement of the seat stands here.
-/
import Derived.Test.YtambbfgmbfamkaaGreatDoorBase
import Derived.Lib.AppendStr
namespace Go.Proofs.YtambbfgmbfamkaaGreatDoor
open Go.RowKit
section
variable {P : Program} (w : World)
/-- append(v, s...) of a string s: what comes out is owned, and it lies where it lay or in the new last block. -/
theorem run_append_str_fresh (base : Nat) (t u ty e : TypeId) (i : TypeInfo) (ht : P.underlying t = some (.slice e)) (hu : P.underlying u = some .string) (hi : P.info? e = some i) (hz : i.zero = some (.int .u8 0))
    (hsize : i.size = 1) (hby : i.bytes = 1)
    (vo : Option Addr) (n vc : Nat) (xs : List Value) (hown : w.ownsRow base e 1 (.slice vo n vc) n xs) (s : ByteArray)
    (h63 : n + s.size ≤ maxLen) (hbytes : n + s.size ≤ 140737488355328) (hbase : base ≤ w.heap.size) :
    ∃ vo' vc' w', (Builtin.append_ #[t, u] ty #[.slice vo n vc, .string s]).run P w = .ok (.slice vo' (n + s.size) vc') w' ∧ w'.ownsRow base e 1 (.slice vo' (n + s.size) vc') (n + s.size) (xs ++ Lib.strCells s) ∧ Chg (InRow vo) w w' ∧
      (vo' = vo ∨ vo' = some ⟨w.heap.size, 0, none⟩) := by
  obtain ⟨v', w', hr, h2, h3, h4⟩ := Lib.run_append_own_string (P := P) w base t u ty e i ht hu hi hz hsize hby (.slice vo n vc) n xs hown s h63 hbytes hbase
  have h3' := chg_of_grownBy h3
  rcases hown.2 with ⟨hv, hn0⟩ | ⟨g, cap, cur, hv, hbg, hg, hnc, hcm, hcs, htake⟩
  · injection hv with e1 e2 e3
    subst e1 e3 hn0
    by_cases hm : s.size = 0
    · have := h4.2 ⟨rfl, hm⟩
      subst this
      rw [hm] at h2 ⊢
      exact ⟨none, 0, w', hr, h2, h3', .inl rfl⟩
    · have hr2 := run_append_nil_string (P := P) w t u ty e i (.int .u8 0) ht hu hi hz s (by omega) (by omega) (by rw [hby]; omega)
      rw [hr] at hr2
      injection hr2 with h5 h6
      subst h5
      rw [show 0 + s.size = s.size from by omega] at *
      exact ⟨_, _, w', hr, h2, h3', .inr rfl⟩
  · injection hv with e1 e2 e3
    subst e1 e3
    by_cases hroom : n + s.size ≤ vc
    · have hcs' : cur.size = vc := by simpa using hcs
      have hr2 := Lib.run_append_room_string (P := P) w t u ty e i ht hu hi hsize g n vc cur hg s hroom (by omega)
      rw [hr] at hr2
      injection hr2 with h5 h6
      subst h5
      exact ⟨_, _, w', hr, h2, h3', .inl rfl⟩
    · have hxl : xs.length = n := by simpa using hown.1
      have holds : ∀ j u, xs[j]? = some u → w.cell? ((⟨g, 0, none⟩ : Addr).add j) = some u := hown.cells (g := g) rfl
      have hr2 := Lib.run_append_grow_string (P := P) w t u ty e i (.int .u8 0) ht hu hi hz ⟨g, 0, none⟩ n vc xs (by rw [hsize]; simpa using hxl) holds s (by omega) (by omega) (by rw [hby]; exact growslice_fits (by omega) (by omega))
      rw [hr] at hr2
      injection hr2 with h5 h6
      subst h5
      exact ⟨_, _, w', hr, h2, h3', .inr rfl⟩
theorem wpList_append_str_fresh {ops : Array Oper} {rest : List Oper} {o : Oper} {a : Act} {Q : Exit → Act → World → Prop} (hgd : o.guard = none) (sl x : Operand) (t u : TypeId)
    (ho : o.op = .call { callee := .builtin .append, args := #[sl, x], argTypes := #[t, u] })
    (base : Nat) (e : TypeId) (i : TypeInfo) (ht : P.underlying t = some (.slice e)) (hu : P.underlying u = some .string) (hi : P.info? e = some i) (hz : i.zero = some (.int .u8 0))
    (hsize : i.size = 1) (hby : i.bytes = 1)
    (vo : Option Addr) (n vc : Nat) (xs : List Value) (hs : a.eval sl = .slice vo n vc) (hown : w.ownsRow base e 1 (.slice vo n vc) n xs) (s : ByteArray) (hx : a.eval x = .string s)
    (h63 : n + s.size ≤ maxLen) (hbytes : n + s.size ≤ 140737488355328) (hbase : base ≤ w.heap.size)
    (h : ∀ vo' vc' w', w'.ownsRow base e 1 (.slice vo' (n + s.size) vc') (n + s.size) (xs ++ Lib.strCells s) → Chg (InRow vo) w w' → (vo' = vo ∨ vo' = some ⟨w.heap.size, 0, none⟩) → wpList P ops Q rest (a.put o.dst (.slice vo' (n + s.size) vc')) w') : wpList P ops Q (o :: rest) a w := by
  refine wpList_plain hgd fun K hK => ?_
  obtain ⟨vo', vc', w', hr, h2, h3, h4⟩ := run_append_str_fresh (P := P) w base t u o.type e i ht hu hi hz hsize hby vo n vc xs hown s h63 hbytes hbase
  unfold Oper.wp execOp
  simp only [ho, resolve, invoke, builtin, Sem.run_bind, Sem.run_pure, Result.andThen_ok, List.map_toArray, List.map_cons, List.map_nil, hs, hx, hr]
  exact hK _ _ (h vo' vc' w' h2 h3 h4)
end
end Go.Proofs.YtambbfgmbfamkaaGreatDoor
