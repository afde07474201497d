/-
  Proved: the plain law of the spacing model: a list that is parsed and printed is what the one-pass model of the flat bytes prints. No statement of the seat stands here.
-/
import Derived.Test.YtbbanpfkicdnmaaFmtHelp
namespace Go.Proofs.YtbbanpfkicdnmaaFmt
open Go.RowKit Go.ChangeAt
set_option linter.unusedSimpArgs false
set_option linter.unusedVariables false
/-- A list of tokens: a leaf or a group ahead of the rest; kinds as the byte code's (0 identifier, 1 comma, 2 whitespace, 6 star; 3 function, 4 parenthesis, 7 bracket). -/
inductive Ts where
  | nil
  | leaf (op sel : Nat) (rest : Ts)
  | node (op sel : Nat) (kids rest : Ts)
namespace Ts
def app : Ts → Ts → Ts
  | .nil, u => u
  | .leaf o s r, u => .leaf o s (app r u)
  | .node o s k r, u => .node o s k (app r u)
theorem app_nil (t : Ts) : app t .nil = t := by
  induction t with
  | nil => rfl
  | leaf o s r ih => simp [app, ih]
  | node o s k r _ ih => simp [app, ih]
theorem app_app (t u v : Ts) : app (app t u) v = app t (app u v) := by
  induction t with
  | nil => rfl
  | leaf o s r ih => simp [app, ih]
  | node o s k r _ ih => simp [app, ih]
def len : Ts → Nat
  | .nil => 0
  | .leaf _ _ r => len r + 1
  | .node _ _ _ r => len r + 1
end Ts
/-- The four names of the functions. -/
def ftxt (c : Nat) : ByteArray := if c % 4 = 0 then ⟨#[102]⟩ else if c % 4 = 1 then ⟨#[99, 97, 108, 99]⟩ else if c % 4 = 2 then ⟨#[114, 103, 98]⟩ else ⟨#[118, 97, 114]⟩
/-- A leaf's text. -/
def ltxt (op sel : Nat) : ByteArray := if op = 0 then txt sel else if op = 1 then ⟨#[44]⟩ else if op = 2 then ⟨#[32]⟩ else ⟨#[42]⟩
/-- A group's text (ahead of a function's parenthesis). -/
def gtxt (op sel : Nat) : ByteArray := if op = 3 then ftxt sel else if op = 4 then ⟨#[40]⟩ else ⟨#[91]⟩
/-- What opens a group, what closes it. -/
def opens (op sel : Nat) : List UInt8 := (gtxt op sel).data.toList ++ (if op = 3 then [40] else [])
def closer (op : Nat) : UInt8 := if op = 7 then 93 else 41
def sp (p : Bool) : List UInt8 := if p = true then [32] else []
/-- Is whitespace owed behind the list. -/
def fin (p : Bool) : Ts → Bool
  | .nil => p
  | .leaf op _ r => fin (op == 2) r
  | .node _ _ _ r => fin false r
/-- What is printed of a list ahead of its last space. -/
def body (p : Bool) : Ts → List UInt8
  | .nil => []
  | .leaf op sel r => if op = 2 then body true r else sp p ++ (ltxt op sel).data.toList ++ body false r
  | .node op sel k r => sp p ++ opens op sel ++ (body false k ++ sp (fin false k)) ++ [closer op] ++ body false r
def full (t : Ts) : List UInt8 := body false t ++ sp (fin false t)
/-- How the byte code is read; the Boolean: within a group. -/
inductive Parses : Bool → List UInt8 → Ts → List UInt8 → Prop where
  | nil (d : Bool) : Parses d [] .nil []
  | leaf {d : Bool} {b : UInt8} {c r : List UInt8} {ts : Ts} (h : b.toNat % 8 = 0 ∨ b.toNat % 8 = 1 ∨ b.toNat % 8 = 2 ∨ b.toNat % 8 = 6) (k : Parses d c ts r) : Parses d (b :: c) (.leaf (b.toNat % 8) (b.toNat / 8) ts) r
  | close {b : UInt8} (c : List UInt8) (h : b.toNat % 8 = 5) : Parses true (b :: c) .nil c
  | skip {b : UInt8} {c r : List UInt8} {ts : Ts} (h : b.toNat % 8 = 5) (k : Parses false c ts r) : Parses false (b :: c) ts r
  | node {d : Bool} {b : UInt8} {c r1 r : List UInt8} {ks ts : Ts} (h : b.toNat % 8 = 3 ∨ b.toNat % 8 = 4 ∨ b.toNat % 8 = 7) (k1 : Parses true c ks r1) (k2 : Parses d r1 ts r) : Parses d (b :: c) (.node (b.toNat % 8) (b.toNat / 8) ks ts) r
/-- The one-pass model's state: what is written, the open groups, is a space owed. -/
structure St where
  out : List UInt8
  st : List Nat
  p : Bool
def step (s : St) (b : UInt8) : St :=
  if b.toNat % 8 = 2 then ⟨s.out, s.st, true⟩
  else if b.toNat % 8 = 5 then
    match s.st with
    | [] => s
    | o :: r => ⟨s.out ++ sp s.p ++ [closer o], r, false⟩
  else if b.toNat % 8 = 0 ∨ b.toNat % 8 = 1 ∨ b.toNat % 8 = 6 then ⟨s.out ++ sp s.p ++ (ltxt (b.toNat % 8) (b.toNat / 8)).data.toList, s.st, false⟩
  else ⟨s.out ++ sp s.p ++ opens (b.toNat % 8) (b.toNat / 8), b.toNat % 8 :: s.st, false⟩
def finish (s : St) : List UInt8 × Bool := (s.out ++ sp s.p ++ s.st.map closer, s.p && s.st.isEmpty)
def run (s : St) (c : List UInt8) : List UInt8 × Bool := finish (c.foldl step s)
theorem run_cons (s : St) (b : UInt8) (c : List UInt8) : run s (b :: c) = run (step s b) c := rfl
theorem parsed {d : Bool} {c r : List UInt8} {ts : Ts} (h : Parses d c ts r) :
    (d = true → ∀ out o st p, run ⟨out, o :: st, p⟩ c = run ⟨out ++ body p ts ++ sp (fin p ts) ++ [closer o], st, false⟩ r) ∧
    (d = false → ∀ out p, run ⟨out, [], p⟩ c = (out ++ body p ts ++ sp (fin p ts), fin p ts)) := by
  induction h with
  | nil d => exact ⟨fun _ out o st p => by cases p <;> simp [run, finish, body, fin, sp], fun _ out p => by simp [run, finish, body, fin]⟩
  | @leaf d b c r ts h k ih =>
    refine ⟨fun hd out o st p => ?_, fun hd out p => ?_⟩
    · rw [run_cons]
      by_cases h2 : b.toNat % 8 = 2
      · rw [show step ⟨out, o :: st, p⟩ b = ⟨out, o :: st, true⟩ by simp [step, h2], ih.1 hd]
        simp [body, fin, h2]
      · have h5 : b.toNat % 8 ≠ 5 := by omega
        have h3 : b.toNat % 8 = 0 ∨ b.toNat % 8 = 1 ∨ b.toNat % 8 = 6 := by omega
        rw [show step ⟨out, o :: st, p⟩ b = ⟨out ++ sp p ++ (ltxt (b.toNat % 8) (b.toNat / 8)).data.toList, o :: st, false⟩ by simp only [step, if_neg h2, if_neg h5, if_pos h3], ih.1 hd]
        have e : (b.toNat % 8 == 2) = false := beq_eq_false_iff_ne.2 h2
        simp only [body, fin, if_neg h2, e, List.append_assoc]
    · rw [run_cons]
      by_cases h2 : b.toNat % 8 = 2
      · rw [show step ⟨out, [], p⟩ b = ⟨out, [], true⟩ by simp [step, h2], ih.2 hd]
        simp [body, fin, h2]
      · have h5 : b.toNat % 8 ≠ 5 := by omega
        have h3 : b.toNat % 8 = 0 ∨ b.toNat % 8 = 1 ∨ b.toNat % 8 = 6 := by omega
        rw [show step ⟨out, [], p⟩ b = ⟨out ++ sp p ++ (ltxt (b.toNat % 8) (b.toNat / 8)).data.toList, [], false⟩ by simp only [step, if_neg h2, if_neg h5, if_pos h3], ih.2 hd]
        have e : (b.toNat % 8 == 2) = false := beq_eq_false_iff_ne.2 h2
        simp only [body, fin, if_neg h2, e, List.append_assoc]
  | @close b c h =>
    refine ⟨fun _ out o st p => ?_, fun hd => by cases hd⟩
    rw [run_cons, show step ⟨out, o :: st, p⟩ b = ⟨out ++ sp p ++ [closer o], st, false⟩ by simp [step, h]]
    simp [body, fin]
  | @skip b c r ts h k ih =>
    refine ⟨fun hd => (by cases hd), fun hd out p => ?_⟩
    rw [run_cons, show step ⟨out, [], p⟩ b = ⟨out, [], p⟩ by simp [step, h], ih.2 hd]
  | @node d b c r1 r ks ts h k1 k2 ih1 ih2 =>
    have h2 : b.toNat % 8 ≠ 2 := by omega
    have h5 : b.toNat % 8 ≠ 5 := by omega
    have h3 : ¬ (b.toNat % 8 = 0 ∨ b.toNat % 8 = 1 ∨ b.toNat % 8 = 6) := by omega
    refine ⟨fun hd out o st p => ?_, fun hd out p => ?_⟩
    · rw [run_cons, show step ⟨out, o :: st, p⟩ b = ⟨out ++ sp p ++ opens (b.toNat % 8) (b.toNat / 8), b.toNat % 8 :: o :: st, false⟩ by simp only [step, if_neg h2, if_neg h5, if_neg h3], ih1.1 rfl, ih2.1 hd]
      simp only [body, fin, List.append_assoc]
    · rw [run_cons, show step ⟨out, [], p⟩ b = ⟨out ++ sp p ++ opens (b.toNat % 8) (b.toNat / 8), [b.toNat % 8], false⟩ by simp only [step, if_neg h2, if_neg h5, if_neg h3], ih1.1 rfl, ih2.2 hd]
      simp only [body, fin, List.append_assoc]
/-- THE PLAIN LAW. -/
theorem stream_law {c r : List UInt8} {ts : Ts} (h : Parses false c ts r) : run ⟨[], [], false⟩ c = (full ts, fin false ts) := by
  rw [(parsed h).2 rfl]
  simp [full]
end Go.Proofs.YtbbanpfkicdnmaaFmt
