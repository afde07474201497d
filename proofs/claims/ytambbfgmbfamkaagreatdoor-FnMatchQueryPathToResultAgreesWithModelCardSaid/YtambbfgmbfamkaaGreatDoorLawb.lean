/-
  Proved: what the law's model keeps: two sets with their lists, the files' bytes. No statement of the seat stands here.
-/
import Derived.Test.YtambbfgmbfamkaaGreatDoorLawa
import Derived.Test.YtambbfgmbfamkaaGreatDoorItoa
import Derived.Test.YtambbfgmbfamkaaGreatDoorBeq
import Derived.Test.YtambbfgmbfamkaaGreatDoorSums
namespace Go.Proofs.YtambbfgmbfamkaaGreatDoor
open Go.RowKit Go.ChangeAt
set_option linter.unusedSimpArgs false
set_option linter.unusedVariables false
set_option maxRecDepth 100000
def keys (u : Nat → ByteArray) : Nat → List (List UInt8)
  | 0 => []
  | k + 1 => (u k).data.toList :: keys u k
theorem itoaAux_len (d : Nat) : ∀ (x : Nat) (acc : List UInt8), x < 10 ^ d → (itoaAux x acc).length ≤ acc.length + d := by
  induction d with
  | zero =>
    intro x acc hx
    obtain rfl : x = 0 := by simpa using hx
    rw [itoaAux_zero]
    exact Nat.le_refl _
  | succ d ih =>
    intro x acc hx
    by_cases h0 : x = 0
    · subst h0
      rw [itoaAux_zero]
      omega
    · rw [itoaAux_step x acc h0]
      have := ih (x / 10) (UInt8.ofNat (48 + x % 10) :: acc) (by rw [Nat.pow_succ] at hx; omega)
      rw [List.length_cons] at this
      omega
theorem itoa_size (k : Nat) (hk : k ≤ 1048576) : (itoa k).size ≤ 8 := by
  unfold itoa
  split
  · decide
  · have := itoaAux_len 8 k [] (by omega)
    show (itoaAux k []).length ≤ 8
    simpa using this
theorem byteAt_row (s : ByteArray) (cap j : Nat) (hj : j < s.size) : (bytesRow s cap)[j]? = some (byteAt (bt s) j) := by
  rw [bytesRow_at s _ j hj]
  unfold byteAt
  rw [← bt_eq s j hj]
  rfl
/-- []byte(s): a new row. -/
theorem conv_new (s : ByteArray) (hs : s.size ≤ 1048576) (w : World) : ∃ cap w', (convert 9 27 (.string s)).run Tryz.prog w = .ok (.slice (some ⟨w.heap.size, 0, none⟩) s.size cap) w' ∧ s.size ≤ cap ∧ cap ≤ 9223372036854775807 ∧ Chg Nowhere w w' ∧ w'.heap.size = w.heap.size + 1 ∧ Reads w' (some ⟨w.heap.size, 0, none⟩) s.size (byteAt (bt s)) := by
  have hr := run_bytes_of_string (P := Tryz.prog) w 9 27 5 s Tryz.underlying9 Tryz.underlying27 Tryz.underlying5
  have hge := grownCap_ge w s.size 0 5
  have hcm := grownCap_le_maxLen w s.size 0 5 (by unfold maxLen; omega)
  refine ⟨_, _, hr, by omega, by unfold maxLen at hcm; omega, ((Chg.refl Nowhere w).drew).alloc _, by simp [World.drew, World.alloc, -World.alloc_eq, -World.drew_eq], .inr ⟨_, 0, rfl, fun i hi => ?_⟩⟩
  have := cell_of_heap (heap_alloc_new w.drew (.cells (bytesRow s (grownCap w s.size 0 5)) 5 ((bytesRow s (grownCap w s.size 0 5)).size, (bytesRow s (grownCap w s.size 0 5)).size + 1))) (0 + i)
  rw [Nat.zero_add] at this ⊢
  exact this.trans (byteAt_row s _ i hi)
/-- The files' bytes: file i's are i's numeral. -/
def Con (w : World) (B n : Nat) (c : Nat → Option Addr × Nat × Nat) : Prop := ∀ i, i < n → Reads w (c i).1 (itoa i).size (byteAt (bt (itoa i))) ∧ (c i).2.1 = (itoa i).size ∧ (itoa i).size ≤ (c i).2.2 ∧ (c i).2.2 ≤ 9223372036854775807 ∧ ∀ g o, (c i).1 = some ⟨g, o, none⟩ → B ≤ g ∧ g < w.heap.size
theorem Con.kept {w w' : World} {B n : Nat} {c : Nat → Option Addr × Nat × Nat} {S : Nat → Prop} (h : Con w B n c) (hc : Chg S w w') (hS : ∀ k, B ≤ k → k < w.heap.size → ¬ S k) : Con w' B n c := fun i hi => by
  obtain ⟨h1, h2, h3, h4, h5⟩ := h i hi
  exact ⟨h1.kept hc (fun g o e => hS g (h5 g o e).1 (h5 g o e).2), h2, h3, h4, fun g o e => ⟨(h5 g o e).1, Nat.lt_of_lt_of_le (h5 g o e).2 hc.size⟩⟩
def strV (x : List UInt8) : Value := .string ⟨x.toArray⟩
theorem strV_eq (s : ByteArray) : strV s.data.toList = .string s := rfl
structure Lst (wr : World) (B : Nat) (vo : Option Addr) (l vc : Nat) (DL K : List (List UInt8)) : Prop where
  own : wr.ownsRow B 9 1 (.slice vo l vc) l (DL.map strV)
  nodup : DL.Nodup
  mem : ∀ x, x ∈ DL ↔ x ∈ K
section
variable {wa wr w1 w2 w3 : World} {B : Nat} {vo vo' vo2 : Option Addr} {l vc vc' l2 vc2 : Nat} {DL FL K K2 : List (List UInt8)}
theorem Lst.len (h : Lst wr B vo l vc DL K) : DL.length = l := by
  have := h.own.1
  simpa using this
theorem Lst.row (h : Lst wr B vo l vc DL K) {k : Nat} (hk : InRow vo k) : B ≤ k ∧ k < wr.heap.size := by
  obtain ⟨a, rfl, rfl⟩ := hk
  exact h.own.lt _ rfl
theorem Lst.nil (w : World) (B : Nat) : Lst w B none 0 0 [] [] := ⟨World.ownsRow_nil _ _ _ _, List.nodup_nil, fun _ => Iff.rfl⟩
theorem Lst.congr (h : Lst wr B vo l vc DL K) (e : ∀ x, x ∈ K ↔ x ∈ K2) : Lst wr B vo l vc DL K2 := ⟨h.own, h.nodup, fun x => (h.mem x).trans (e x)⟩
theorem Lst.kept {S : Nat → Prop} (h : Lst wr B vo l vc DL K) (hc : Chg S wr w1) (hS : ∀ k, InRow vo k → ¬ S k) : Lst w1 B vo l vc DL K :=
  ⟨hc.owns h.own (fun k hk => hS k (by
    cases vo with
    | none => simp [Value.ownBlock] at hk
    | some a => exact ⟨a, rfl, by simpa [Value.ownBlock] using hk⟩)), h.nodup, h.mem⟩
theorem Lst.more (h : Lst wr B vo l vc DL K) {k : List UInt8} (hk : k ∉ K) (hown : w1.ownsRow B 9 1 (.slice vo' (l + 1) vc') (l + 1) (DL.map strV ++ [strV k])) : Lst w1 B vo' (l + 1) vc' (DL ++ [k]) (k :: K) := by
  refine ⟨by rw [List.map_append]; exact hown, ?_, fun x => ?_⟩
  · rw [List.nodup_append]
    refine ⟨h.nodup, List.pairwise_singleton _ _, fun a ha b hb => ?_⟩
    rw [List.mem_singleton] at hb
    subst hb
    exact fun e => hk (e ▸ (h.mem a).1 ha)
  · rw [List.mem_append, List.mem_singleton, List.mem_cons, h.mem]
    exact Or.comm
/-- The model's state: the two sets and their lists, in memory made since wa. -/
structure Mod (wa wr : World) (B bE bG : Nat) (vo vo2 : Option Addr) (l vc l2 vc2 cD cF : Nat) (DL FL K K2 : List (List UInt8)) : Prop where
  d : SetAt Tryz.prog 9 4 wr bE cD K
  e : SetAt Tryz.prog 9 4 wr bG cF K2
  ld : Lst wr B vo l vc DL K
  le : Lst wr B vo2 l2 vc2 FL K2
  sep : ∀ k, InRow vo k → ¬ InRow vo2 k
  old : Chg Nowhere wa wr
  aE : wa.heap.size ≤ bE
  aG : wa.heap.size ≤ bG
  ne : bE ≠ bG
  bE : bE < B
  bG : bG < B
  bB : B ≤ wr.heap.size
  lcD : l ≤ cD
  lcF : l2 ≤ cF
variable {bE bG cD cF : Nat}
theorem Mod.oldD (h : Mod wa wr B bE bG vo vo2 l vc l2 vc2 cD cF DL FL K K2) {k : List UInt8} (hk : k ∈ K) : Mod wa wr B bE bG vo vo2 l vc l2 vc2 (cD + 1) cF DL FL (k :: K) K2 := by
  have e : ∀ x, x ∈ K ↔ x ∈ k :: K := fun x => by
    rw [List.mem_cons]
    exact ⟨.inr, fun h => h.elim (fun h => h ▸ hk) (fun h => h)⟩
  exact ⟨(h.d.mono (by omega)).congr e, h.e, h.ld.congr e, h.le, h.sep, h.old, h.aE, h.aG, h.ne, h.bE, h.bG, h.bB, Nat.le_succ_of_le h.lcD, h.lcF⟩
theorem Mod.oldF (h : Mod wa wr B bE bG vo vo2 l vc l2 vc2 cD cF DL FL K K2) {k : List UInt8} (hk : k ∈ K2) : Mod wa wr B bE bG vo vo2 l vc l2 vc2 cD (cF + 1) DL FL K (k :: K2) := by
  have e : ∀ x, x ∈ K2 ↔ x ∈ k :: K2 := fun x => by
    rw [List.mem_cons]
    exact ⟨.inr, fun h => h.elim (fun h => h ▸ hk) (fun h => h)⟩
  exact ⟨h.d, (h.e.mono (by omega)).congr e, h.ld, h.le.congr e, h.sep, h.old, h.aE, h.aG, h.ne, h.bE, h.bG, h.bB, h.lcD, Nat.le_succ_of_le h.lcF⟩
theorem Mod.ownD (h : Mod wa wr B bE bG vo vo2 l vc l2 vc2 cD cF DL FL K K2) (hc : Chg (fun x => x = bE) wr w1) (o : Obj) : (w1.alloc o).ownsRow B 9 1 (.slice vo l vc) l (DL.map strV) :=
  (h.ld.kept hc (fun k hk e => by have := (h.ld.row hk).1; have := h.bE; omega)).own.alloc o
theorem Mod.ownF (h : Mod wa wr B bE bG vo vo2 l vc l2 vc2 cD cF DL FL K K2) (hc : Chg (fun x => x = bG) wr w1) (o : Obj) : (w1.alloc o).ownsRow B 9 1 (.slice vo2 l2 vc2) l2 (FL.map strV) :=
  (h.le.kept hc (fun k hk e => by have := (h.le.row hk).1; have := h.bG; omega)).own.alloc o
theorem Mod.newD (h : Mod wa wr B bE bG vo vo2 l vc l2 vc2 cD cF DL FL K K2) {k : List UInt8} (hk : k ∉ K) (hs : SetAt Tryz.prog 9 4 w1 bE (cD + 1) (k :: K)) (hc : Chg (fun x => x = bE) wr w1) (o : Obj)
    (hown : w3.ownsRow B 9 1 (.slice vo' (l + 1) vc') (l + 1) (DL.map strV ++ [strV k])) (hg : Chg (InRow vo) (w1.alloc o) w3) (hf : vo' = vo ∨ vo' = some ⟨(w1.alloc o).heap.size, 0, none⟩) :
    Mod wa w3 B bE bG vo' vo2 (l + 1) vc' l2 vc2 (cD + 1) cF (DL ++ [k]) FL (k :: K) K2 := by
  have hb1 := h.bE
  have hb2 := h.bG
  have ha : Chg Nowhere w1 (w1.alloc o) := (Chg.refl _ _).alloc o
  have rD : ∀ k, InRow vo k → B ≤ k := fun k hk => (h.ld.row hk).1
  have e1 : SetAt Tryz.prog 9 4 w3 bE (cD + 1) (k :: K) := (hs.kept ha (fun h => h)).kept hg (fun hk => by have := rD _ hk; omega)
  have e2 : SetAt Tryz.prog 9 4 w3 bG cF K2 := ((h.e.kept hc (fun e => h.ne e.symm)).kept ha (fun h => h)).kept hg (fun hk => by have := rD _ hk; omega)
  have e3 : Lst w3 B vo2 l2 vc2 FL K2 := ((h.le.kept hc (fun k hk e => by have := (h.le.row hk).1; omega)).kept ha (fun _ _ h => h)).kept hg (fun k hk hk2 => h.sep k hk2 hk)
  have hsz : wa.heap.size ≤ B := by have := h.aE; omega
  have e4 : Chg Nowhere wa w3 := ((h.old.trans hc (fun k hk e => by have := h.aE; omega)).trans ha (fun _ _ h => h)).trans hg (fun k hk hr => by have := rD _ hr; omega)
  refine ⟨e1, e2, h.ld.more hk hown, e3, fun k hk => ?_, e4, h.aE, h.aG, h.ne, h.bE, h.bG, Nat.le_trans h.bB (Nat.le_trans hc.size (Nat.le_trans ha.size hg.size)), Nat.succ_le_succ h.lcD, h.lcF⟩
  rcases hf with rfl | rfl
  · exact h.sep k hk
  · obtain ⟨a, ha1, rfl⟩ := hk
    injection ha1 with ha1
    subst ha1
    intro hr
    have := (h.le.row hr).2
    have := hc.size
    have := ha.size
    simp only at *
    omega
theorem Mod.newF (h : Mod wa wr B bE bG vo vo2 l vc l2 vc2 cD cF DL FL K K2) {k : List UInt8} (hk : k ∉ K2) (hs : SetAt Tryz.prog 9 4 w1 bG (cF + 1) (k :: K2)) (hc : Chg (fun x => x = bG) wr w1) (o : Obj)
    (hown : w3.ownsRow B 9 1 (.slice vo' (l2 + 1) vc') (l2 + 1) (FL.map strV ++ [strV k])) (hg : Chg (InRow vo2) (w1.alloc o) w3) (hf : vo' = vo2 ∨ vo' = some ⟨(w1.alloc o).heap.size, 0, none⟩) :
    Mod wa w3 B bE bG vo vo' l vc (l2 + 1) vc' cD (cF + 1) DL (FL ++ [k]) K (k :: K2) := by
  have hb1 := h.bE
  have hb2 := h.bG
  have ha : Chg Nowhere w1 (w1.alloc o) := (Chg.refl _ _).alloc o
  have rF : ∀ k, InRow vo2 k → B ≤ k := fun k hk => (h.le.row hk).1
  have e1 : SetAt Tryz.prog 9 4 w3 bG (cF + 1) (k :: K2) := (hs.kept ha (fun h => h)).kept hg (fun hk => by have := rF _ hk; omega)
  have e2 : SetAt Tryz.prog 9 4 w3 bE cD K := ((h.d.kept hc (fun e => h.ne e)).kept ha (fun h => h)).kept hg (fun hk => by have := rF _ hk; omega)
  have e3 : Lst w3 B vo l vc DL K := ((h.ld.kept hc (fun k hk e => by have := (h.ld.row hk).1; omega)).kept ha (fun _ _ h => h)).kept hg (fun k hk hk2 => h.sep k hk hk2)
  have hsz : wa.heap.size ≤ B := by have := h.aE; omega
  have e4 : Chg Nowhere wa w3 := ((h.old.trans hc (fun k hk e => by have := h.aG; omega)).trans ha (fun _ _ h => h)).trans hg (fun k hk hr => by have := rF _ hr; omega)
  refine ⟨e2, e1, e3, h.le.more hk hown, fun k hk => ?_, e4, h.aE, h.aG, h.ne, h.bE, h.bG, Nat.le_trans h.bB (Nat.le_trans hc.size (Nat.le_trans ha.size hg.size)), h.lcD, Nat.succ_le_succ h.lcF⟩
  rcases hf with rfl | rfl
  · exact h.sep k hk
  · rintro ⟨a, ha1, rfl⟩
    injection ha1 with ha1
    subst ha1
    have := (h.ld.row hk).2
    have := hc.size
    have := ha.size
    simp only at *
    omega
theorem Mod.start (wa : World) : Mod wa ((wa.alloc (.map #[] 0)).alloc (.map #[] 0)) (wa.heap.size + 2) wa.heap.size (wa.heap.size + 1) none none 0 0 0 0 0 0 [] [] [] [] := by
  have s1 : (wa.alloc (.map #[] 0)).heap.size = wa.heap.size + 1 := by simp
  have h2 := SetAt.made (P := Tryz.prog) (ks := 9) (eb := 4) (wa.alloc (.map #[] 0))
  rw [s1] at h2
  exact ⟨(SetAt.made wa).kept ((Chg.refl Nowhere _).alloc _) (fun h => h), h2, Lst.nil _ _, Lst.nil _ _, fun k ⟨a, h, _⟩ => (by cases h), ((Chg.refl _ _).alloc _).alloc _, Nat.le_refl _, Nat.le_succ _, by omega, by omega, by omega, by simp, Nat.le_refl _, Nat.le_refl _⟩
theorem Mod.keep (h : Mod wa wr B bE bG vo vo2 l vc l2 vc2 cD cF DL FL K K2) (hc : Chg Nowhere wr w1) : Mod wa w1 B bE bG vo vo2 l vc l2 vc2 cD cF DL FL K K2 :=
  ⟨h.d.kept hc (fun h => h), h.e.kept hc (fun h => h), h.ld.kept hc (fun _ _ h => h), h.le.kept hc (fun _ _ h => h), h.sep, h.old.trans hc (fun _ _ h => h), h.aE, h.aG, h.ne, h.bE, h.bG, Nat.le_trans h.bB hc.size, h.lcD, h.lcF⟩
end
theorem infoStr : (Tryz.prog.info? 9).map (fun i => (i.zero, i.size, i.bytes)) = some (some (.string ⟨#[]⟩), 1, 16) := by kernel_rfl
/-- The one-element row that append copies. -/
theorem str_new (v : Value) (w : World) (e : TypeId) (q : Nat) (hq : q = w.heap.size) : ∀ a, (some ⟨q, 0, none⟩ : Option Addr) = some a → ∀ j u, ([v])[j]? = some u → (w.alloc (.cells #[v] e)).cell? (a.add j) = some u := by
  subst hq
  exact fun a ha => cells_new w #[v] e a ha
/-- What the law answers. -/
def LawOut (w : World) (e : Ending) (w' : World) : Prop := e = .returned (.bool true) ∧ Chg Nowhere w w'
end Go.Proofs.YtambbfgmbfamkaaGreatDoor
