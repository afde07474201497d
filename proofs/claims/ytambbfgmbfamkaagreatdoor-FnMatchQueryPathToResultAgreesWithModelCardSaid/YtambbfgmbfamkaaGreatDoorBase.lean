/-
  Proved: general lemmas on memory for this seat's walks: what a call changes ('Chg'), slices that are only read ('Reads'), an append whose new block is told. No condition; no statement of the seat stands here.
-/
import Derived.WalkKit
import Derived.WalkSpells
import Derived.WalkLawsBesides
import Derived.ProofKit
import Derived.OpenShut
import Derived.ShutString
import Derived.ChangeOld
import Derived.Below
import Derived.Lib.Hide
import Derived.LoopTactic
import Derived.RegionTactic
import Derived.Deep.QuietTactic
import Derived.BigQuiet
import Derived.Deep.RegionLaw
import Derived.Deep.LoopGhost
import Derived.Laws.AppendOwn
import Derived.Laws.OwnMore
import Derived.Laws.MakeOwn
namespace Go.Proofs.YtambbfgmbfamkaaGreatDoor
open Go.RowKit

/-- Outside the blocks of S the world w' is as w was (of the blocks that w had). -/
structure Chg (S : Nat → Prop) (w w' : World) : Prop where
  os : w'.os = w.os
  tape : w'.tape = w.tape
  output : w'.output = w.output
  size : w.heap.size ≤ w'.heap.size
  block : ∀ k, k < w.heap.size → ¬ S k → w'.heap[k]? = w.heap[k]?

def Nowhere : Nat → Prop := fun _ => False

section
variable {S S' : Nat → Prop} {w w' a b c : World} {B : Nat}

theorem Chg.refl (S : Nat → Prop) (w : World) : Chg S w w := ⟨rfl, rfl, rfl, Nat.le_refl _, fun _ _ _ => rfl⟩
theorem Chg.trans (h : Chg S a b) (k : Chg S' b c) (hs : ∀ k, k < a.heap.size → S' k → S k) : Chg S a c :=
  ⟨k.os.trans h.os, k.tape.trans h.tape, k.output.trans h.output, Nat.le_trans h.size k.size, fun i hi hn => (k.block i (Nat.lt_of_lt_of_le hi h.size) (fun h' => hn (hs i hi h'))).trans (h.block i hi hn)⟩
theorem Chg.mono (h : Chg S a b) (hs : ∀ k, k < a.heap.size → S k → S' k) : Chg S' a b :=
  ⟨h.os, h.tape, h.output, h.size, fun i hi hn => h.block i hi (fun h' => hn (hs i hi h'))⟩
theorem Chg.below (h : Chg S w w') (hB : B ≤ w.heap.size) (hS : ∀ k, k < w.heap.size → S k → B ≤ k) : Below B w w' :=
  ⟨h.os, h.tape, h.output, h.size, fun k hk => h.block k (by omega) (fun hs => by have := hS k (by omega) hs; omega)⟩
theorem Chg.of_below (h : Below B w w') (hS : ∀ k, B ≤ k → S k) : Chg S w w' :=
  ⟨h.os, h.tape, h.output, h.size, fun k _ hn => h.block k (Nat.lt_of_not_le fun hb => hn (hS k hb))⟩
theorem Chg.drew (h : Chg S a w) : Chg S a w.drew := ⟨h.os, h.tape, h.output, h.size, h.block⟩
theorem Chg.drewN (h : Chg S a w) (n : Nat) : Chg S a (w.drewN n) := ⟨h.os, h.tape, h.output, h.size, h.block⟩
theorem Chg.alloc (h : Chg S a w) (o : Obj) : Chg S a (w.alloc o) :=
  h.trans (S' := Nowhere) ⟨rfl, rfl, rfl, by simp, fun k hk _ => Below.heap_alloc _ _ _ hk⟩ (fun _ _ h => h.elim)
theorem Chg.setCell (h : Chg S a w) {p : Addr} (hp : p.block < a.heap.size → S p.block) (u : Value) : Chg S a (w.setCell p u) :=
  h.trans (S' := fun k => k = p.block) ⟨rfl, rfl, rfl, by simp [World.setCell], fun k _ hk => Below.heap_setCell _ _ _ _ hk⟩ (fun k hk h => by subst h; exact hp hk)
theorem Chg.grown {row : Option Nat} (h : Chg S a w) (hg : w.grownBy w' row) (hr : ∀ k, k < a.heap.size → row = some k → S k) : Chg S a w' :=
  h.trans (S' := fun k => row = some k) ⟨hg.os, hg.tape, hg.output, hg.size, fun k hk hn => hg.block k hk (fun e => hn e.symm)⟩ (fun k hk h => hr k hk h)
theorem Chg.heap (h : Chg S w w') {k : Nat} {o : Obj} (ho : w.heap[k]? = some o) (hn : ¬ S k) : w'.heap[k]? = some o :=
  (h.block k (Array.getElem?_eq_some_iff.1 ho).1 hn).trans ho
theorem Chg.cell (h : Chg S w w') {p : Addr} {v : Value} (hc : w.cell? p = some v) (hn : ¬ S p.block) : w'.cell? p = some v :=
  (World.cell?_of_block (h.block p.block (World.block_lt_of_cell? w p hc) hn)).trans hc
theorem Chg.cell_eq (h : Chg S w w') {p : Addr} (hp : p.block < w.heap.size) (hn : ¬ S p.block) : w'.cell? p = w.cell? p :=
  World.cell?_of_block (h.block p.block hp hn)
theorem Chg.frozen_eq (h : Chg S w w') {p : Addr} (hp : p.block < w.heap.size) (hn : ¬ S p.block) : w'.frozen? p = w.frozen? p :=
  World.frozen?_of_block (h.block p.block hp hn)
theorem Chg.owns {base : Nat} {e : TypeId} {size : Nat} {v : Value} {n : Nat} {xs : List Value} (h : Chg S w w') (ho : w.ownsRow base e size v n xs) (hn : ∀ k, v.ownBlock = some k → ¬ S k) : w'.ownsRow base e size v n xs := by
  refine ⟨ho.1, ?_⟩
  rcases ho.2 with h2 | ⟨g, cap, cur, rfl, hb, hg, rest⟩
  · exact .inl h2
  · exact .inr ⟨g, cap, cur, rfl, hb, h.heap hg (hn g rfl), rest⟩
end

theorem cell_of_heap {w : World} {b : Nat} {cs : Array Value} {e : TypeId} {fz : Nat × Nat} (h : w.heap[b]? = some (.cells cs e fz)) (j : Nat) : w.cell? ⟨b, j, none⟩ = cs[j]? := by
  simp [World.cell?, h]
theorem frozen_of_heap {w : World} {b : Nat} {cs : Array Value} {e : TypeId} (h : w.heap[b]? = some (.cells cs e (0, 0))) (j : Nat) : w.frozen? ⟨b, j, none⟩ = false := by
  simp [World.frozen?, h]
theorem heap_setCell {w : World} {b : Nat} {cs : Array Value} {e : TypeId} {fz : Nat × Nat} (h : w.heap[b]? = some (.cells cs e fz)) (j : Nat) (u : Value) :
    (w.setCell ⟨b, j, none⟩ u).heap[b]? = some (.cells (cs.setIfInBounds j u) e fz) := by
  simp [World.setCell, Array.getElem?_modify, h]
theorem heap_lt {w : World} {b : Nat} {o : Obj} (h : w.heap[b]? = some o) : b < w.heap.size := (Array.getElem?_eq_some_iff.1 h).1

/-- The slice value v reads, cell by cell, as f 0 .. f (n-1), in block g from place o on. (n = 0: nothing is known of where it leads.) -/
def Reads (w : World) (a : Option Addr) (n : Nat) (f : Nat → Value) : Prop :=
  n = 0 ∨ ∃ g o, a = some ⟨g, o, none⟩ ∧ ∀ i, i < n → w.cell? ⟨g, o + i, none⟩ = some (f i)

theorem reads_of_cells {w : World} {x : Addr} {n : Nat} {f : Nat → Value} (h : ∀ i, i < n → w.cell? (x.add i) = some (f i)) : Reads w (some x) n f := by
  by_cases hn : n = 0
  · exact .inl hn
  · obtain ⟨b, off, spot⟩ := x
    have h0 := h 0 (by omega)
    have hspot : spot = none := by simpa [Addr.add] using World.cell?_spot h0
    subst hspot
    refine .inr ⟨b, off, rfl, fun i hi => ?_⟩
    have h1 := h i hi
    have h2 : (⟨b, off, none⟩ : Addr).add i = ⟨b, off + i, none⟩ := by unfold Addr.add; split <;> simp_all
    rwa [h2] at h1
theorem getD_all {α : Type} {p : α → Prop} {zs : List α} {d : α} (h : ∀ z ∈ zs, p z) (hd : p d) : ∀ i, p (zs.getD i d) := by
  intro i
  rw [List.getD_eq_getElem?_getD]
  cases hg : zs[i]? with
  | none => simpa using hd
  | some z => simpa using h z (List.mem_of_getElem? hg)
theorem Reads.kept {S : Nat → Prop} {w w' : World} {a : Option Addr} {n : Nat} {f : Nat → Value} (h : Reads w a n f) (hc : Chg S w w') (hn : ∀ g o, a = some ⟨g, o, none⟩ → ¬ S g) : Reads w' a n f := by
  rcases h with h | ⟨g, o, rfl, h⟩
  · exact .inl h
  · exact .inr ⟨g, o, rfl, fun i hi => hc.cell (h i hi) (hn g o rfl)⟩

/-- The block in which a slice's row lies. -/
def InRow (a : Option Addr) : Nat → Prop := fun k => ∃ x, a = some x ∧ x.block = k

section
variable {P : Program} (w : World)

theorem ownsRow_addr {w : World} {base : Nat} {e : TypeId} {size : Nat} {vo : Option Addr} {n vc : Nat} {xs : List Value} (h : w.ownsRow base e size (.slice vo n vc) n xs) :
    (vo = none ∧ n = 0 ∧ vc = 0 ∧ xs = []) ∨ ∃ g, vo = some ⟨g, 0, none⟩ ∧ base ≤ g ∧ g < w.heap.size := by
  rcases h.2 with ⟨h1, h2⟩ | ⟨g, cap, cur, h1, hb, hg, _⟩
  · injection h1 with h3 h4 h5
    subst h3 h5
    have hl := h.1
    subst h2
    exact .inl ⟨rfl, rfl, rfl, List.eq_nil_of_length_eq_zero (by simpa using hl)⟩
  · injection h1 with h3 h4 h5
    exact .inr ⟨g, h3, hb, (Array.getElem?_eq_some_iff.1 hg).1⟩

theorem chg_of_grownBy {w w' : World} {vo : Option Addr} {n vc : Nat} (h : w.grownBy w' (Value.ownBlock (.slice vo n vc))) : Chg (InRow vo) w w' := by
  refine ⟨h.os, h.tape, h.output, h.size, fun k hk hn => h.block k hk ?_⟩
  intro he
  cases vo with
  | none => simp [Value.ownBlock] at he
  | some x => exact hn ⟨x, rfl, by simpa [Value.ownBlock] using he.symm⟩

/-- append to a slice that is nil or whose row is owned: what comes out is owned, and it lies where it lay or in the new last block. -/
theorem run_append_fresh (base : Nat) (t ty e : TypeId) (i : TypeInfo) (z : Value) (size bytes : Nat) (ht : P.underlying t = some (.slice e)) (hi : P.info? e = some i) (hz : i.zero = some z)
    (hsize : i.size = size) (hby : i.bytes = bytes) (hzs : z.cells.size = size) (hsz : 0 < size)
    (vo : Option Addr) (n vc : Nat) (xs : List Value) (hown : w.ownsRow base e size (.slice vo n vc) n xs)
    (ao : Option Addr) (m c : Nat) (news : List Value) (hl : news.length = m * size) (hnil : ao = none → m = 0 ∧ c = 0) (hnews : ∀ a, ao = some a → ∀ j u, news[j]? = some u → w.cell? (a.add j) = some u) (h1 : ∀ u ∈ news, u.oneCell' = true)
    (h63 : n + m ≤ maxLen) (hbytes : (n + m) * bytes ≤ 140737488355328) (hbase : base ≤ w.heap.size) :
    ∃ vo' vc' w', (Builtin.append_ #[t, t] ty #[.slice vo n vc, .slice ao m c]).run P w = .ok (.slice vo' (n + m) vc') w' ∧ w'.ownsRow base e size (.slice vo' (n + m) vc') (n + m) (xs ++ news) ∧ Chg (InRow vo) w w' ∧
      (vo' = vo ∨ vo' = some ⟨w.heap.size, 0, none⟩) := by
  cases ao with
  | none =>
    obtain ⟨rfl, rfl⟩ := hnil rfl
    obtain rfl : news = [] := List.eq_nil_of_length_eq_zero (by simpa using hl)
    exact ⟨vo, vc, w, run_append_owned_none (P := P) w base t ty e i size ht hi (.slice vo n vc) n xs hown, by simpa using hown, Chg.refl _ _, .inl rfl⟩
  | some a =>
    have hnews := hnews a rfl
    obtain ⟨v', w', hr, h2, h3, h4⟩ := run_append_own (P := P) w base t ty e i z size bytes ht hi hz hsize hby hzs hsz (.slice vo n vc) n xs hown a m c news hl hnews h1 h63 hbytes hbase
    have h3' := chg_of_grownBy h3
    subst hsize hby
    have hsmall : n + m ≤ 9223372036854775807 := by simp only [maxLen] at h63; omega
    rcases hown.2 with ⟨hv, hn0⟩ | ⟨g, cap, cur, hv, hbg, hg, hnc, hcm, hcs, htake⟩
    · injection hv with e1 e2 e3
      subst e1 e3 hn0
      by_cases hm : m = 0
      · have := (h4.2 ⟨rfl, hm⟩)
        subst this
        subst hm
        exact ⟨none, 0, w', hr, h2, h3', .inl rfl⟩
      · have hr2 := run_append_nil (P := P) w t ty e i z ht hi hz a m c news hl hnews (by omega) (by omega) (by have hb := hbytes; simp only [Nat.zero_add] at hb; omega)
        rw [hr] at hr2
        injection hr2 with h5 h6
        subst h5
        rw [show 0 + m = m from by omega] at *
        exact ⟨_, _, w', hr, h2, h3', .inr rfl⟩
    · injection hv with e1 e2 e3
      subst e1 e3
      by_cases hroom : n + m ≤ vc
      · have hfit : n * i.size + news.length ≤ cur.size := by rw [hl, hcs, ← Nat.add_mul]; exact Nat.mul_le_mul_right _ hroom
        have hr2 := run_append_room (P := P) w t ty e i ht hi g n vc cur hg a m c news hl hnews h1 hroom hfit
        rw [hr] at hr2
        injection hr2 with h5 h6
        subst h5
        exact ⟨_, _, w', hr, h2, h3', .inl rfl⟩
      · have holds : ∀ j u, xs[j]? = some u → w.cell? ((⟨g, 0, none⟩ : Addr).add j) = some u := hown.cells (g := g) rfl
        have hr2 := run_append_grow (P := P) w t ty e i z ht hi hz ⟨g, 0, none⟩ n vc xs hown.1 holds a m c news hl hnews (by omega) (by omega) (growslice_fits (by omega) hbytes)
        rw [hr] at hr2
        injection hr2 with h5 h6
        subst h5
        exact ⟨_, _, w', hr, h2, h3', .inr rfl⟩

theorem wp_append_fresh {o : Oper} {a : Act} {K : Act → World → Prop} {Q : Exit → Act → World → Prop} (s x : Operand) (t : TypeId)
    (ho : o.op = .call { callee := .builtin .append, args := #[s, x], argTypes := #[t, t] })
    (base : Nat) (e : TypeId) (i : TypeInfo) (z : Value) (size bytes : Nat) (ht : P.underlying t = some (.slice e)) (hi : P.info? e = some i) (hz : i.zero = some z)
    (hsize : i.size = size) (hby : i.bytes = bytes) (hzs : z.cells.size = size) (hsz : 0 < size)
    (vo : Option Addr) (n vc : Nat) (xs : List Value) (hs : a.eval s = .slice vo n vc) (hown : w.ownsRow base e size (.slice vo n vc) n xs)
    (ao : Option Addr) (m c : Nat) (news : List Value) (hx : a.eval x = .slice ao m c) (hl : news.length = m * size) (hnil : ao = none → m = 0 ∧ c = 0) (hnews : ∀ a, ao = some a → ∀ j u, news[j]? = some u → w.cell? (a.add j) = some u) (h1 : ∀ u ∈ news, u.oneCell' = true)
    (h63 : n + m ≤ maxLen) (hbytes : (n + m) * bytes ≤ 140737488355328) (hbase : base ≤ w.heap.size)
    (h : ∀ vo' vc' w', w'.ownsRow base e size (.slice vo' (n + m) vc') (n + m) (xs ++ news) → Chg (InRow vo) w w' → (vo' = vo ∨ vo' = some ⟨w.heap.size, 0, none⟩) → K (a.put o.dst (.slice vo' (n + m) vc')) w') : o.wp P a w K Q := by
  obtain ⟨vo', vc', w', hr, h2, h3, h4⟩ := run_append_fresh (P := P) w base t o.type e i z size bytes ht hi hz hsize hby hzs hsz vo n vc xs hown ao m c news hl hnil hnews h1 h63 hbytes hbase
  unfold Oper.wp execOp
  simp only [ho, resolve, invoke, builtin, Sem.run_bind, Sem.run_pure, Result.andThen_ok, List.map_toArray, List.map_cons, List.map_nil, hs, hx, hr]
  exact h vo' vc' w' h2 h3 h4

/-- The same as the next operation of a region in the order of the text. -/
theorem wpList_append_fresh {ops : Array Oper} {rest : List Oper} {o : Oper} {a : Act} {Q : Exit → Act → World → Prop} (hgd : o.guard = none) (s x : Operand) (t : TypeId)
    (ho : o.op = .call { callee := .builtin .append, args := #[s, x], argTypes := #[t, t] })
    (base : Nat) (e : TypeId) (i : TypeInfo) (z : Value) (size bytes : Nat) (ht : P.underlying t = some (.slice e)) (hi : P.info? e = some i) (hz : i.zero = some z)
    (hsize : i.size = size) (hby : i.bytes = bytes) (hzs : z.cells.size = size) (hsz : 0 < size)
    (vo : Option Addr) (n vc : Nat) (xs : List Value) (hs : a.eval s = .slice vo n vc) (hown : w.ownsRow base e size (.slice vo n vc) n xs)
    (ao : Option Addr) (m c : Nat) (news : List Value) (hx : a.eval x = .slice ao m c) (hl : news.length = m * size) (hnil : ao = none → m = 0 ∧ c = 0) (hnews : ∀ a, ao = some a → ∀ j u, news[j]? = some u → w.cell? (a.add j) = some u) (h1 : ∀ u ∈ news, u.oneCell' = true)
    (h63 : n + m ≤ maxLen) (hbytes : (n + m) * bytes ≤ 140737488355328) (hbase : base ≤ w.heap.size)
    (h : ∀ vo' vc' w', w'.ownsRow base e size (.slice vo' (n + m) vc') (n + m) (xs ++ news) → Chg (InRow vo) w w' → (vo' = vo ∨ vo' = some ⟨w.heap.size, 0, none⟩) → wpList P ops Q rest (a.put o.dst (.slice vo' (n + m) vc')) w') : wpList P ops Q (o :: rest) a w :=
  wpList_plain hgd fun _ hK => wp_append_fresh w s x t ho base e i z size bytes ht hi hz hsize hby hzs hsz vo n vc xs hs hown ao m c news hx hl hnil hnews h1 h63 hbytes hbase fun v' c' w' h2 h3 h4 => hK _ _ (h v' c' w' h2 h3 h4)

/-- The same as one step of a region that draws its order. -/
theorem step_append_fresh {ops : Array Oper} {o : Oper} {a : Act} {K : Act → World → Prop} {Q : Exit → Act → World → Prop} {E : Prop} (hgd : o.guard = none) (s x : Operand) (t : TypeId)
    (ho : o.op = .call { callee := .builtin .append, args := #[s, x], argTypes := #[t, t] })
    (base : Nat) (e : TypeId) (i : TypeInfo) (z : Value) (size bytes : Nat) (ht : P.underlying t = some (.slice e)) (hi : P.info? e = some i) (hz : i.zero = some z)
    (hsize : i.size = size) (hby : i.bytes = bytes) (hzs : z.cells.size = size) (hsz : 0 < size)
    (vo : Option Addr) (n vc : Nat) (xs : List Value) (hs : a.eval s = .slice vo n vc) (hown : w.ownsRow base e size (.slice vo n vc) n xs)
    (ao : Option Addr) (m c : Nat) (news : List Value) (hx : a.eval x = .slice ao m c) (hl : news.length = m * size) (hnil : ao = none → m = 0 ∧ c = 0) (hnews : ∀ a, ao = some a → ∀ j u, news[j]? = some u → w.cell? (a.add j) = some u) (h1 : ∀ u ∈ news, u.oneCell' = true)
    (h63 : n + m ≤ maxLen) (hbytes : (n + m) * bytes ≤ 140737488355328) (hbase : base ≤ w.heap.size)
    (h : ∀ vo' vc' w', w'.ownsRow base e size (.slice vo' (n + m) vc') (n + m) (xs ++ news) → Chg (InRow vo) w w' → (vo' = vo ∨ vo' = some ⟨w.heap.size, 0, none⟩) → K (a.put o.dst (.slice vo' (n + m) vc')) w') :
    if Region.wanted o (yielded ops a.tmps) = true then Oper.wp P o a w K Q else E := by
  have hw : Region.wanted o (yielded ops a.tmps) = true := by simp [Region.wanted, hgd]
  rw [if_pos hw]
  exact wp_append_fresh w s x t ho base e i z size bytes ht hi hz hsize hby hzs hsz vo n vc xs hs hown ao m c news hx hl hnil hnews h1 h63 hbytes hbase h
end

/-! Quiet calls behind a quiet region; contracts that state 'w = w''. -/
theorem quiet_add_left {P : Program} {f : FuncId} {args : Array Value} {w : World} {a n : Nat} {v : Value}
    (h : Calls P f args (w.drewN (a + n)) fun e w' => e = .returned v ∧ w.drewN (a + n) = w') :
    Calls P f args (w.drewN (a + n)) fun e w'' => e = .returned v ∧ ∃ m, w'' = w.drewN (a + m) :=
  h.mono fun _ _ ⟨he, hm⟩ => ⟨he, n, hm.symm⟩
theorem quiet_left {P : Program} {f : FuncId} {args : Array Value} {w : World} {n : Nat} {v : Value}
    (h : Calls P f args (w.drewN n) fun e w' => e = .returned v ∧ w.drewN n = w') : Calls P f args (w.drewN n) fun e w'' => e = .returned v ∧ ∃ m, w'' = w.drewN m :=
  h.mono fun _ _ ⟨he, hm⟩ => ⟨he, n, hm.symm⟩
theorem results_tmp4 {fn : Func} {t u v x : Tmp} (h : fn.results = #[.tmp t, .tmp u, .tmp v, .tmp x]) (tmps : Array Value) (P : Program) (w : World) :
    (results fn tmps).run P w = .ok (.tuple #[tmps.getD t undef, tmps.getD u undef, tmps.getD v undef, tmps.getD x undef]) w := by simp [results, h]
theorem results_tmp5 {fn : Func} {t u v x y : Tmp} (h : fn.results = #[.tmp t, .tmp u, .tmp v, .tmp x, .tmp y]) (tmps : Array Value) (P : Program) (w : World) :
    (results fn tmps).run P w = .ok (.tuple #[tmps.getD t undef, tmps.getD u undef, tmps.getD v undef, tmps.getD x undef, tmps.getD y undef]) w := by simp [results, h]

/-- It answers some bool, some integer; the world is left as it is. (Behind a name: a post with an open '∃' is taken apart at a walk's end.) -/
def SomeBool (w : World) (e : Ending) (w' : World) : Prop := ∃ r : Bool, e = .returned (.bool r) ∧ w = w'
def SomeInt (w : World) (e : Ending) (w' : World) : Prop := ∃ y : Int, e = .returned (.int .i64 y) ∧ w = w'

/-- A row of n one-cell elements that the call has made since w, in the first new block; its first k cells hold f 0 .. f (k-1). -/
def Made (w wr : World) (e : TypeId) (n k : Nat) (f : Nat → Value) : Prop :=
  Chg Nowhere w wr ∧ ∃ cur : Array Value, wr.heap[w.heap.size]? = some (.cells cur e (0, 0)) ∧ cur.size = n ∧ ∀ i, i < k → cur[i]? = some (f i)
theorem Made.start (w : World) (e : TypeId) (z : Value) (n : Nat) (f : Nat → Value) : Made w (w.alloc (.cells (madeCells #[z] n) e)) e n 0 f :=
  ⟨(Chg.refl _ _).alloc _, _, heap_alloc_new w _, by rw [size_madeCells], fun i hi => absurd hi (Nat.not_lt_zero i)⟩
theorem Made.step {w wr : World} {e : TypeId} {n k : Nat} {f : Nat → Value} (h : Made w wr e n k f) (hk : k < n) : Made w (wr.setCell ⟨w.heap.size, k, none⟩ (f k)) e n (k + 1) f := by
  obtain ⟨hc, cur, hg, hs, hf⟩ := h
  refine ⟨hc.setCell (fun h => absurd h (Nat.lt_irrefl _)) _, _, heap_setCell hg k _, by simpa using hs, ?_⟩
  intro i hi
  rw [Array.getElem?_setIfInBounds]
  split
  · subst_vars
    simp only [hk, if_true]
  · exact hf i (by omega)
theorem Made.cell {w wr : World} {e : TypeId} {n k : Nat} {f : Nat → Value} (h : Made w wr e n k f) (j : Nat) (hj : j < n) : ∃ v, wr.cell? ⟨w.heap.size, j, none⟩ = some v := by
  obtain ⟨hc, cur, hg, hs, hf⟩ := h
  exact ⟨cur[j], by rw [cell_of_heap hg, Array.getElem?_eq_getElem (by omega)]⟩
theorem Made.frozen {w wr : World} {e : TypeId} {n k : Nat} {f : Nat → Value} (h : Made w wr e n k f) (j : Nat) : wr.frozen? ⟨w.heap.size, j, none⟩ = false := by
  obtain ⟨hc, cur, hg, hs, hf⟩ := h
  exact frozen_of_heap hg j
theorem Made.lt {w wr : World} {e : TypeId} {n k : Nat} {f : Nat → Value} (h : Made w wr e n k f) : w.heap.size < wr.heap.size := by
  obtain ⟨hc, cur, hg, hs, hf⟩ := h
  exact heap_lt hg
theorem Made.reads {w wr : World} {e : TypeId} {n : Nat} {f : Nat → Value} (h : Made w wr e n n f) : Reads wr (some ⟨w.heap.size, 0, none⟩) n f := by
  obtain ⟨hc, cur, hg, hs, hf⟩ := h
  exact .inr ⟨_, 0, rfl, fun i hi => by rw [cell_of_heap hg, Nat.zero_add]; exact hf i hi⟩

theorem run_make_one {P : Program} (t e : TypeId) (i : TypeInfo) (z : Value) (ht : P.underlying t = some (.slice e)) (hi : P.info? e = some i) (hz : i.zero = some z) (h1 : i.size = 1) (hc : z.cells = #[z])
    (bytes : Nat) (hby : i.bytes = bytes) (n : Nat) (hbytes : bytes * n ≤ 281474976710656) (h63 : n ≤ 9223372036854775807) (w : World) :
    (Instr.makeSlice t (.int .i64 (n : Int)) (.int .i64 (n : Int))).run P w = .ok (.slice (some ⟨w.heap.size, 0, none⟩) n n) (w.alloc (.cells (madeCells #[z] n) e)) := by
  subst hby
  have hb : (i.bytes : Int) * (n : Int) ≤ 281474976710656 := by
    have h : ((i.bytes * n : Nat) : Int) ≤ 281474976710656 := by omega
    rwa [Int.natCast_mul] at h
  have hr := run_make (P := P) w t e i z ht hi hz .i64 .i64 n n (by omega) (Int.le_refl _) hb (by omega)
  rw [hr, h1, hc]
  simp

/-- What a call hands back: a slice (maybe nil) of n one-cell elements f, in memory of its own; what there was is as it was. -/
def Copied (n : Nat) (f : Nat → Value) (w : World) (e : Ending) (w' : World) : Prop :=
  ∃ a c, e = .returned (.slice a n c) ∧ Reads w' a n f ∧ Chg Nowhere w w' ∧ ∀ g o, a = some ⟨g, o, none⟩ → w.heap.size ≤ g ∧ g < w'.heap.size

theorem add_cell (g o j : Nat) : (⟨g, o, none⟩ : Addr).add j = ⟨g, o + j, none⟩ := by unfold Addr.add; split <;> simp_all
/-- The cells of the block that has just been laid, as the append's law asks for them. -/
theorem cells_new (w : World) (cs : Array Value) (e : TypeId) (a : Addr) (ha : some (⟨w.heap.size, 0, none⟩ : Addr) = some a) : ∀ j u, cs.toList[j]? = some u → (w.alloc (.cells cs e)).cell? (a.add j) = some u := by
  intro j u h
  injection ha with ha
  subst ha
  rw [add_cell, cell_of_heap (heap_alloc_new w _)]
  simpa using h

end Go.Proofs.YtambbfgmbfamkaaGreatDoor
